/-
  Seat b6602355a. The contract of 'excerptTerms' and of its shim.
-/
import Derived.Test.Qxb6602355aExcerpt
import Derived.Test.Qxb6602355aBuilder
namespace Go.Proofs.Qxb6602355a
open Go.RowKit

theorem builderAt_below {B b : Nat} {p : Value} {bs : List Value} {w w' : World} (h : Lib.BuilderAt 36 5 B b p bs w) (hb : Below w.heap.size w w') : Lib.BuilderAt 36 5 B b p bs w' := by
  have hl := h.lt
  obtain ⟨hB, v, hbk, hown, hne⟩ := h
  exact ⟨hB, v, (hb.block b hl).trans hbk, hown.kept (row := none) ⟨hb.os, hb.tape, hb.output, hb.size, fun k hk _ => hb.block k hk⟩ (by
    cases hv : v.ownBlock with
    | none => exact .inl rfl
    | some g => exact .inr (by simp)), hne⟩

theorem isBuilder_below {B b : Nat} {bs : List Value} {w w' : World} (h : Lib.IsBuilder 36 5 B b bs w) (hb : Below w.heap.size w w') : Lib.IsBuilder 36 5 B b bs w' :=
  h.elim (fun x => .inl (builderAt_below x hb)) (fun x => .inr (builderAt_below x hb))

/-- What the rounds over the terms know. -/
def TermsAt (s : ByteArray) (w : World) (k : Nat) (wr : World) : Prop :=
  ∃ acc : List UInt8, Lib.IsBuilder 36 5 w.heap.size w.heap.size (Lib.byteCells acc) wr ∧ Below w.heap.size w wr ∧ acc ++ ext (s.data.toList.drop k) = ext s.data.toList ∧ acc.length ≤ 4 * k

theorem terms_start (s : ByteArray) (w : World) : TermsAt s w 0 (w.alloc (.cells #[.pointer none, .slice none 0 0] 36)) :=
  ⟨[], Lib.fresh_isBuilder 36 5 w, (Below.refl _ _).alloc (Nat.le_refl _) _, rfl, by simp⟩

theorem space_byte {c : UInt8} (h : (c.toNat : Int) = 32) : c = 32 := byte_eq (n := 32) (by show c.toNat = 32; omega)
theorem not_space {c : UInt8} (h : ¬ (c.toNat : Int) = 32) : c ≠ 32 := fun e => h (by rw [e]; rfl)

theorem ext_at_space (s : ByteArray) (k : Nat) (h : k < s.size) (hc : (s[k].toNat : Int) = 32) : ext (s.data.toList.drop k) = 32 :: ext (s.data.toList.drop (k + 1)) := by
  rw [drop_cons s k h, ext_space _ _ (space_byte hc)]

theorem ext_at_term (s : ByteArray) (k j : Nat) (h : k < s.size) (hc : ¬ (s[k].toNat : Int) = 32) (hkj : k ≤ j) (ht : term (s.data.toList.drop k) = j - k) :
    ext (s.data.toList.drop k) = excB (s.extract k j) ++ ext (s.data.toList.drop j) := by
  have e : s.extract k j = ⟨((s.data.toList.drop k).take (j - k)).toArray⟩ := by
    apply ByteArray.ext
    apply Array.ext'
    simp
  rw [e]
  rw [drop_cons s k h] at ht ⊢
  rw [ext_term _ _ (not_space hc), ht, exc, ← drop_cons s k h, List.drop_drop, Nat.add_sub_of_le hkj]

/-- The inner loop: the term that begins at k, as far as j. -/
def EndAt (s : ByteArray) (k j : Nat) : Prop := term (s.data.toList.drop k) = (j - k) + term (s.data.toList.drop j)

theorem end_start (s : ByteArray) (k : Nat) : EndAt s k k := by unfold EndAt; omega
theorem end_step (s : ByteArray) (k j : Nat) (hkj : k ≤ j) (h : j < s.size) (hc : ¬ (s[j].toNat : Int) = 32) (he : EndAt s k j) : EndAt s k (j + qlen (s.data.toList.drop j)) := by
  unfold EndAt at he ⊢
  rw [he, drop_cons s j h, term_cons _ _ (not_space hc), ← drop_cons s j h, List.drop_drop]
  omega
theorem end_le (s : ByteArray) (j : Nat) (h : j < s.size) : j + qlen (s.data.toList.drop j) ≤ s.size := by
  have e : s.data.toList.length = s.size := by show s.data.toList.length = s.data.size; simp
  have h1 := qlen_le s[j] (s.data.toList.drop (j + 1))
  rw [← drop_cons s j h, List.length_drop] at h1
  omega
theorem end_space (s : ByteArray) (k j : Nat) (h : j < s.size) (hc : (s[j].toNat : Int) = 32) (he : EndAt s k j) : term (s.data.toList.drop k) = j - k := by
  unfold EndAt at he
  rw [he, drop_cons s j h, term_space _ _ (space_byte hc)]; omega
theorem end_end (s : ByteArray) (k j : Nat) (h : ¬ j < s.size) (he : EndAt s k j) : term (s.data.toList.drop k) = j - k := by
  unfold EndAt at he
  rw [he, drop_end s j h, term_nil]; omega

theorem rest_list (s : ByteArray) (j : Nat) : (s.extract j s.size).data.toList = s.data.toList.drop j := by
  have e : s.data.toList.length = s.size := by show s.data.toList.length = s.data.size; simp
  have h1 : (s.extract j s.size).data.toList = (s.data.toList.drop j).take (s.size - j) := by simp
  rw [h1, List.take_of_length_le (by rw [List.length_drop]; omega)]

theorem size_extract (s : ByteArray) (i j : Nat) (h : j ≤ s.size) : (s.extract i j).size = j - i := by
  simp; omega

theorem size_list (s : ByteArray) : s.data.toList.length = s.size := by show s.data.toList.length = s.data.size; simp

theorem term_put {s : ByteArray} {w w1 w2 : World} {k j : Nat} {acc : List UInt8} (hlt : k < s.size) (hc : ¬ (s[k].toNat : Int) = 32) (hkj : k ≤ j) (hj : j ≤ s.size) (ht : term (s.data.toList.drop k) = j - k)
    (hacc : acc ++ ext (s.data.toList.drop k) = ext s.data.toList) (hal : acc.length ≤ 4 * k) (h2 : Lib.BuilderAt 36 5 w.heap.size w.heap.size (.pointer (some ⟨w.heap.size, 0, none⟩)) (Lib.byteCells acc ++ Lib.strCells ⟨(excB (s.extract k j)).toArray⟩) w2)
    (hb1 : Below w.heap.size w w1) (hb2 : Below w.heap.size w1 w2) : TermsAt s w j w2 := by
  have h1 := term_pos _ (s.data.toList.drop (k + 1)) (not_space hc)
  rw [← drop_cons s k hlt] at h1
  refine ⟨acc ++ excB (s.extract k j), ?_, hb1.trans hb2, ?_, ?_⟩
  · have e : Lib.byteCells (acc ++ excB (s.extract k j)) = Lib.byteCells acc ++ Lib.strCells ⟨(excB (s.extract k j)).toArray⟩ := by
      rw [Lib.byteCells_append]
      rfl
    rw [e]
    exact Or.inr h2
  · rw [← hacc, ext_at_term s k j hlt hc hkj ht, List.append_assoc]
  · have h3 := excB_le (s.extract k j)
    rw [size_extract s k j hj] at h3
    rw [List.length_append]
    omega

set_option maxHeartbeats 4000000 in
set_option maxRecDepth 100000 in
theorem excerptTerms_any (s : ByteArray) (w : World) (hs : s.size ≤ 1048576) :
    Calls Try.prog 31 #[.string s] w fun e w' => e = .returned (.string ⟨(ext s.data.toList).toArray⟩) ∧ Below w.heap.size w w' := by
  go_enter Try.func31, Try.ntmps31
  go_wp2
  go_loopw [4] (fun i wr => ∃ k : Nat, k ≤ s.size ∧ i = .int .i64 k ∧ TermsAt s w k wr) (fun i _ => s.size - (intOf i).toNat)
  case atStart => exact ⟨0, Nat.zero_le _, rfl, terms_start s w⟩
  case round =>
    obtain ⟨k, hk, rfl, acc, hI, hbw, hacc, hal⟩ := hrel
    have HA : Hid (acc ++ ext (s.data.toList.drop k) = ext s.data.toList) := hacc
    clear hacc
    by_cases hlt : k < s.size
    · by_cases hc : (s[k].toNat : Int) = 32
      · go_wp2_with (go_at_call 35; refine (writeByte_any w.heap.size w.heap.size _ 32 _ hI (by rw [Lib.byteCells_length]; omega) hbw.size).mono ?_)
        rintro e W1 ⟨rfl, h1, b1⟩
        go_wp2
        go_roundw
        case rel =>
          refine ⟨k + 1, by omega, by go_num, acc ++ [32], ?_, hbw.trans b1, ?_, by simp; omega⟩
          · rw [Lib.byteCells_append]; exact Or.inr h1
          · rw [← HA.out, ext_at_space s k hlt hc]; simp
        case measure => simp [intOf]; omega
      · have hcb : ((s[k].toNat : Int) == 32) = false := by simpa using hc
        have HC : Hid (¬ (s[k].toNat : Int) = 32) := hc
        clear hc
        go_wp2_with fail
        go_loop [5] (fun i => ∃ j : Nat, k ≤ j ∧ j ≤ s.size ∧ i = .int .i64 j ∧ Hid (EndAt s k j)) (fun i => s.size - (intOf i).toNat)
        case atStart => exact ⟨k, Nat.le_refl _, hk, rfl, end_start s k⟩
        case round =>
          obtain ⟨j, hkj, hj, rfl, hE⟩ := hrel
          by_cases hjl : j < s.size
          · by_cases hcj : (s[j].toNat : Int) = 32
            · have hcjb : ((s[j].toNat : Int) == 32) = true := by simpa using hcj
              have HT : Hid (term (s.data.toList.drop k) = j - k) := end_space s k j hjl hcj hE.out
              clear hcj
              go_wp2_with fail
              refine (excerpt_any _ _ (by rw [size_extract s k j hj]; omega)).mono ?_
              rintro e W1 ⟨rfl, b1⟩
              have hI1 := isBuilder_below hI b1
              have hb1 : Below w.heap.size w W1 := hbw.trans (b1.mono hbw.size)
              have HI1 : Hid _ := hI1
              have HB1 : Hid (Below w.heap.size w W1) := hb1
              have hxl := excB_le (s.extract k j)
              rw [size_extract s k j hj] at hxl
              have HXL : Hid ((excB (s.extract k j)).length ≤ j - k + 3) := hxl
              clear hI1 hb1 b1 hI hxl
              go_wp2_with fail
              refine (writeString_any w.heap.size w.heap.size _ _ _ HI1.out (by rw [Lib.byteCells_length]; have := HXL.out; show acc.length + (excB (s.extract k j)).toArray.size ≤ _; simp; omega) HB1.out.size).mono ?_
              rintro e W2 ⟨rfl, h2, b2⟩
              have HP : Hid (TermsAt s w j W2) := term_put hlt HC.out hkj hj HT.out HA.out hal h2 HB1.out b2
              have hkj' : k < j := by have h1 := term_pos _ (s.data.toList.drop (k + 1)) (not_space HC.out); rw [← drop_cons s k hlt, HT.out] at h1; omega
              clear h2 b2
              go_wp2
              go_roundw
              case rel => exact ⟨j, hj, rfl, HP.out⟩
              case measure => simp [intOf]; omega
            · have hcjb : ((s[j].toNat : Int) == 32) = false := by simpa using hcj
              have HJ : Hid (¬ (s[j].toNat : Int) = 32) := hcj
              have hle := end_le s j hjl
              have hpos := qlen_pos (s.data.toList.drop j)
              have hse := size_extract s j s.size (Nat.le_refl _)
              have HSE : Hid ((s.extract j s.size).size = s.size - j) := hse
              clear hcj hse
              go_wp2_with (go_at_call 28; refine (quotedLen_any _ _ (by rw [HSE.out]; omega) (by rw [HSE.out]; omega)).mono ?_; rintro e W1 ⟨rfl, rfl⟩; rw [rest_list])
              go_round
              case rel => exact ⟨j + qlen (s.data.toList.drop j), by omega, hle, by go_num, end_step s k j hkj hjl HJ.out hE.out⟩
              case measure => simp [intOf]; omega
          · have HT : Hid (term (s.data.toList.drop k) = j - k) := end_end s k j hjl hE.out
            go_wp2_with fail
            refine (excerpt_any _ _ (by rw [size_extract s k j hj]; omega)).mono ?_
            rintro e W1 ⟨rfl, b1⟩
            have hI1 := isBuilder_below hI b1
            have hb1 : Below w.heap.size w W1 := hbw.trans (b1.mono hbw.size)
            have HI1 : Hid _ := hI1
            have HB1 : Hid (Below w.heap.size w W1) := hb1
            have hxl := excB_le (s.extract k j)
            rw [size_extract s k j hj] at hxl
            have HXL : Hid ((excB (s.extract k j)).length ≤ j - k + 3) := hxl
            clear hI1 hb1 b1 hI hxl
            go_wp2_with fail
            refine (writeString_any w.heap.size w.heap.size _ _ _ HI1.out (by rw [Lib.byteCells_length]; have := HXL.out; show acc.length + (excB (s.extract k j)).toArray.size ≤ _; simp; omega) HB1.out.size).mono ?_
            rintro e W2 ⟨rfl, h2, b2⟩
            have HP : Hid (TermsAt s w j W2) := term_put hlt HC.out hkj hj HT.out HA.out hal h2 HB1.out b2
            have hkj' : k < j := by have h1 := term_pos _ (s.data.toList.drop (k + 1)) (not_space HC.out); rw [← drop_cons s k hlt, HT.out] at h1; omega
            clear h2 b2
            go_wp2
            go_roundw
            case rel => exact ⟨j, hj, rfl, HP.out⟩
            case measure => simp [intOf]; omega
    · go_wp2_with (go_at_call 37; refine (Try.Builder_String_any w.heap.size w.heap.size acc _ hI hbw.size).mono ?_)
      rintro e W1 ⟨rfl, b1⟩
      go_wp2
      go_ret
      have e := HA.out
      rw [drop_end s k hlt, ext_nil, List.append_nil] at e
      exact ⟨ret_str (by rw [e]), hbw.trans b1⟩
end Go.Proofs.Qxb6602355a
