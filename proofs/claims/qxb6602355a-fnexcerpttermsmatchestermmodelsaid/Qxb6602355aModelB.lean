/-
  Seat b6602355a. The contracts of 'appendCut', 'excerptTermsModel'; the walk of 'FnExcerptTermsMatchesTermModel'.
-/
import Derived.Test.Qxb6602355aModel
import Derived.Test.Qxb6602355aLaws
import Derived.Laws.IdiomStrings
import Derived.Laws.BytesArg
namespace Go.Proofs.Qxb6602355a
open Go.RowKit

/-- The slice v owns the bytes acc. -/
def Owns (B : Nat) (acc : List UInt8) (v : Value) (w : World) : Prop := w.ownsRow B 5 1 v acc.length (Lib.byteCells acc)

theorem owns_more {B : Nat} {acc more : List UInt8} {v : Value} {n : Nat} {w : World} (hn : n = acc.length + more.length) (h : w.ownsRow B 5 1 v n (Lib.byteCells acc ++ Lib.byteCells more)) : Owns B (acc ++ more) v w := by
  unfold Owns
  rw [Lib.byteCells_append, List.length_append, ← hn]
  exact h

theorem strCells_eq (s : ByteArray) : Lib.strCells s = Lib.byteCells s.data.toList := rfl

/-- What appendCut leaves. -/
def Cutted (B : Nat) (acc : List UInt8) (t : ByteArray) (w : World) (e : Ending) (w' : World) : Prop :=
  ∃ v', e = .returned v' ∧ Owns B (acc ++ excB t) v' w' ∧ Below B w w'

theorem excB_none {t : ByteArray} (h : cutF t 64 0 = none) : excB t = t.data.toList := by unfold excB; rw [h]
theorem excB_some {t : ByteArray} {p : Nat} (h : cutF t 64 0 = some p) : excB t = t.data.toList.take p ++ [226, 128, 166] := by unfold excB; rw [h]

set_option maxHeartbeats 2000000 in
set_option maxRecDepth 100000 in
theorem appendCut_any (B : Nat) (acc : List UInt8) (v : Value) (t : ByteArray) (w : World) (hown : Owns B acc v w) (hB : B ≤ w.heap.size) (ht : t.size ≤ 1048576) (ha : acc.length ≤ 8388608) :
    Calls Try.prog 33 #[v, .string t] w fun e w' => Cutted B acc t w e w' := by
  obtain ⟨i0, hi, hz0, hz1, hz2⟩ := info_parts infoByte
  have HO : Hid (Owns B acc v w) := hown
  have hlt := hown.lt
  have HLT : Hid (∀ k, v.ownBlock = some k → B ≤ k ∧ k < w.heap.size) := hlt
  clear hown hlt
  cases hc : cutF t 64 0 with
  | none =>
    have HX : Hid (excB t = t.data.toList) := excB_none hc
    have HC : Hid (cutI t = -1) := cutI_none hc
    clear hc
    go_enter Try.func33, Try.ntmps33
    go_wp2_with fail
    refine (cutAt_any t w ht).mono ?_
    rw [HC.out]
    rintro e w ⟨rfl, rfl⟩
    go_wp2_with (at_builtin; refine Lib.wpList_append_own_string _ rfl _ _ 25 9 rfl B 5 i0 Try.underlying25 Try.underlying9 hi hz0 hz1 hz2 _ _ _ rfl HO.out t rfl (by unfold maxLen; omega) (by omega) hB ?_)
    intro v' w1 hown' hgrow _
    have R : Hid (Owns B (acc ++ excB t) v' w1 ∧ Below B w w1) := ⟨by rw [HX.out]; exact owns_more (by rw [size_list]) (by rw [← strCells_eq]; exact hown'), (Below.refl B w).grown hgrow hB (fun k hk => (HLT.out k hk).1)⟩
    clear hown' hgrow
    go_wp2
    go_ret
    exact ⟨v', rfl, R.out.1, R.out.2⟩
  | some p =>
    have hp := cutF_lt t 64 0 p hc
    have HX : Hid (excB t = t.data.toList.take p ++ [226, 128, 166]) := excB_some hc
    have HC : Hid (cutI t = (p : Int)) := cutI_some hc
    have hse := size_extract t 0 p (by omega)
    have HSE : Hid ((t.extract 0 p).size = p) := by rw [hse]; rfl
    clear hc hse
    go_enter Try.func33, Try.ntmps33
    go_wp2_with fail
    refine (cutAt_any t w ht).mono ?_
    rw [HC.out]
    rintro e w ⟨rfl, rfl⟩
    go_wp2_with (at_builtin; refine Lib.wpList_append_own_string _ rfl (.tmp 13) (.tmp 16) 25 9 rfl B 5 i0 Try.underlying25 Try.underlying9 hi hz0 hz1 hz2 _ _ _ rfl HO.out (t.extract 0 p) rfl (by rw [HSE.out]; unfold maxLen; omega) (by rw [HSE.out]; omega) hB ?_)
    intro v1 w1 hown1 hgrow1 _
    have hlt1 := hown1.lt
    have e1 : (t.extract 0 p).data.toList = t.data.toList.take p := by simp
    have R1 : Hid (Owns B (acc ++ t.data.toList.take p) v1 w1 ∧ Below B w w1) := ⟨by rw [← e1]; exact owns_more (n := acc.length + min p t.size) (by rw [size_list, HSE.out]; omega) (by rw [← strCells_eq]; exact hown1), (Below.refl B w).grown hgrow1 hB (fun k hk => (HLT.out k hk).1)⟩
    have HLT1 : Hid (∀ k, v1.ownBlock = some k → B ≤ k ∧ k < w1.heap.size) := hlt1
    have hB1 : B ≤ w1.heap.size := Nat.le_trans hB R1.out.2.size
    have hl1 : (acc ++ t.data.toList.take p).length ≤ 9437184 := by
      have := size_list t
      rw [List.length_append, List.length_take]; omega
    clear hown1 hgrow1 hlt1 e1
    go_wp2_with (at_builtin; refine wpList_append_own _ rfl (.tmp 18) (.tmp 19) 25 rfl B 5 i0 (.int .u8 0) 1 1 Try.underlying25 hi hz0 hz1 hz2 rfl (by decide) _ _ _ rfl (R1.out.1.alloc _) ⟨w1.heap.size, 0, none⟩ 3 3 (Lib.byteCells [226, 128, 166]) rfl rfl ?c1 ?c2 ?c3 ?c4 ?c5 ?_)
    case c1 =>
      intro j u hj
      match j, hj with
      | 0, hj => simp [Lib.byteCells] at hj; subst hj; simp [Addr.add]
      | 1, hj => simp [Lib.byteCells] at hj; subst hj; simp [Addr.add]
      | 2, hj => simp [Lib.byteCells] at hj; subst hj; simp [Addr.add]
    case c2 => intro u hu; simp [Lib.byteCells] at hu; rcases hu with rfl | rfl | rfl <;> rfl
    case c3 => unfold maxLen; omega
    case c4 => omega
    case c5 => simp; omega
    intro v2 w2 hown2 hgrow2 _
    have R2 : Hid (Owns B (acc ++ excB t) v2 w2 ∧ Below B w w2) := ⟨by rw [HX.out, ← List.append_assoc]; exact owns_more (by have := size_list t; rw [List.length_append, List.length_take]; simp) hown2, (R1.out.2.alloc hB1 _).grown hgrow2 (by simp; omega) (fun k hk => (HLT1.out k hk).1)⟩
    clear hown2 hgrow2
    go_wp2
    go_ret
    exact ⟨v2, rfl, R2.out.1, R2.out.2⟩

/-- What the model's loop knows at k. -/
def ModelAt (s : ByteArray) (w : World) (k : Nat) (v : Value) (wr : World) : Prop :=
  ∃ acc : List UInt8, Owns w.heap.size acc v wr ∧ Below w.heap.size w wr ∧ acc ++ ext (s.data.toList.drop k) = ext s.data.toList ∧ acc.length ≤ 4 * k

theorem model_space {s : ByteArray} {w wr w2 : World} {k : Nat} {acc : List UInt8} {v v1 : Value} {o : Obj} {n : Nat} (hlt : k < s.size) (hc : (s[k].toNat : Int) = 32) (hO : Owns w.heap.size acc v wr) (hb : Below w.heap.size w wr)
    (hacc : acc ++ ext (s.data.toList.drop k) = ext s.data.toList) (hal : acc.length ≤ 4 * k) (h1 : w2.ownsRow w.heap.size 5 1 v1 n (Lib.byteCells acc ++ Lib.byteCells [32])) (hn : n = acc.length + 1) (hg : (wr.alloc o).grownBy w2 v.ownBlock) : ModelAt s w (k + 1) v1 w2 := by
  refine ⟨acc ++ [32], owns_more hn h1, (hb.alloc hb.size _).grown hg (by have := hb.size; simp; omega) (fun k hk => (hO.lt k hk).1), ?_, by simp; omega⟩
  rw [← hacc, ext_at_space s k hlt hc]; simp

theorem model_term {s : ByteArray} {w wr w2 : World} {k j : Nat} {acc : List UInt8} {v2 : Value} (hlt : k < s.size) (hc : ¬ (s[k].toNat : Int) = 32) (hkj : k < j) (hj : j ≤ s.size) (ht : term (s.data.toList.drop k) = j - k) (hb : Below w.heap.size w wr)
    (hacc : acc ++ ext (s.data.toList.drop k) = ext s.data.toList) (hal : acc.length ≤ 4 * k) (h2 : Owns w.heap.size (acc ++ excB (s.extract k j)) v2 w2) (hb2 : Below w.heap.size wr w2) : ModelAt s w j v2 w2 := by
  refine ⟨acc ++ excB (s.extract k j), h2, hb.trans hb2, ?_, ?_⟩
  · rw [← hacc, ext_at_term s k j hlt hc (by omega) ht, List.append_assoc]
  · have h3 := excB_le (s.extract k j)
    rw [size_extract s k j hj] at h3
    rw [List.length_append]
    omega

theorem owned_string (B : Nat) (acc : List UInt8) (v : Value) (w : World) (h : Owns B acc v w) : (convert 25 9 v).run Try.prog w = .ok (.string ⟨acc.toArray⟩) w := by
  rcases h.2 with ⟨rfl, h0⟩ | ⟨g, cap, cur, rfl, _⟩
  · have : acc = [] := List.length_eq_zero_iff.1 h0
    subst this
    exact run_convert_bytes_nil w 25 5 Try.underlying25 Try.underlying5 0 0 9 Try.underlying9
  · refine run_convert_bytes_back w 25 9 5 ⟨g, 0, none⟩ cap acc Try.underlying25 Try.underlying5 Try.underlying9 (fun j hj => ?_)
    have h1 := h.cellAt j (by omega)
    rw [Addr.add_lit, Nat.zero_add, h1]
    simp [Lib.byteCells, hj]

set_option maxHeartbeats 2000000 in
set_option maxRecDepth 100000 in
theorem model_any (s : ByteArray) (w : World) (hs : s.size ≤ 4096) :
    Calls Try.prog 23 #[.string s] w fun e w' => e = .returned (.string ⟨(ext s.data.toList).toArray⟩) ∧ Below w.heap.size w w' := by
  obtain ⟨i0, hi, hz0, hz1, hz2⟩ := info_parts infoByte
  have hbz : i0.bytes = 1 := hz2
  go_enter Try.func23, Try.ntmps23
  go_wp2_with (at_make; refine wpList_make_own _ rfl _ _ 25 rfl w.heap.size 5 i0 (.int .u8 0) 1 Try.underlying25 hi hz0 hz1 _ _ _ (s.size + 3) rfl rfl (by omega) (by rw [hbz]; omega) (by unfold maxLen; omega) (Nat.le_refl _) ?_)
  intro w1 hown hgrow
  have H0 : Hid (ModelAt s w 0 (.slice (some ⟨w.heap.size, 0, none⟩) 0 (s.size + 3)) w1) := ⟨[], hown, (Below.refl _ w).grown hgrow (Nat.le_refl _) (fun k hk => by cases hk), rfl, by simp⟩
  clear hown hgrow
  go_wp2
  go_loopw [3, 4] (fun v i wr => ∃ k : Nat, k ≤ s.size ∧ i = .int .i64 k ∧ Hid (ModelAt s w k v wr)) (fun _ i _ => s.size - (intOf i).toNat)
  case atStart => exact ⟨0, Nat.zero_le _, rfl, H0⟩
  case round =>
    clear H0
    obtain ⟨k, hk, rfl, hM⟩ := hrel
    obtain ⟨acc, hO, hb, hacc, hal⟩ := hM.out
    have HO : Hid _ := hO
    have HB : Hid _ := hb
    have HA : Hid _ := hacc
    clear hO hb hacc hM
    by_cases hlt : k < s.size
    · by_cases hc : (s[k].toNat : Int) = 32
      · go_wp2_with (at_builtin; refine wpList_append_own _ rfl (.tmp 18) (.tmp 19) 25 rfl w.heap.size 5 i0 (.int .u8 0) 1 1 Try.underlying25 hi hz0 hz1 hz2 rfl (by decide) _ _ _ rfl (HO.out.alloc _) ⟨wr.heap.size, 0, none⟩ 1 1 (Lib.byteCells [32]) rfl rfl ?c1 ?c2 ?c3 ?c4 ?c5 ?_)
        case c1 =>
          intro j u hj
          match j, hj with
          | 0, hj => simp [Lib.byteCells] at hj; subst hj; simp [Addr.add]
        case c2 => intro u hu; simp [Lib.byteCells] at hu; subst hu; rfl
        case c3 => unfold maxLen; omega
        case c4 => omega
        case c5 => have := HB.out.size; simp; omega
        intro v1 w2 hown1 hgrow1 _
        have R : Hid (ModelAt s w (k + 1) v1 w2) := model_space hlt hc HO.out HB.out HA.out hal hown1 rfl hgrow1
        clear hown1 hgrow1
        go_wp2
        go_roundw
        case rel => exact ⟨k + 1, by omega, by go_num, R⟩
        case measure => simp [intOf]; omega
      · have hcb : ((s[k].toNat : Int) == 32) = false := by simpa using hc
        have HC : Hid (¬ (s[k].toNat : Int) = 32) := hc
        clear hc
        go_wp2_with fail
        refine (termEnd_any s k wr hk (by omega)).mono ?_
        obtain ⟨j, hj⟩ : ∃ j, j = k + term (s.data.toList.drop k) := ⟨_, rfl⟩
        rw [← hj]
        have hjs : j ≤ s.size := by have h := term_le (s.data.toList.drop k); rw [List.length_drop, size_list] at h; omega
        have hkj : k < j := by have h1 := term_pos _ (s.data.toList.drop (k + 1)) (not_space HC.out); rw [← drop_cons s k hlt] at h1; omega
        have HJ : Hid (term (s.data.toList.drop k) = j - k) := by show term (s.data.toList.drop k) = j - k; omega
        clear hj
        rintro e wr ⟨rfl, rfl⟩
        go_wp2_with fail
        refine (appendCut_any w.heap.size acc _ (s.extract k j) wr HO.out HB.out.size (by rw [size_extract s k j hjs]; omega) (by omega)).mono ?_
        rintro e w2 ⟨v2, rfl, hO2, b2⟩
        have R : Hid (ModelAt s w j v2 w2) := model_term hlt HC.out hkj hjs HJ.out HB.out HA.out hal hO2 b2
        clear hO2 b2
        go_wp2
        go_roundw
        case rel => exact ⟨j, hjs, rfl, R⟩
        case measure => simp [intOf]; omega
    · have hcv := owned_string w.heap.size acc _ wr HO.out
      have HE : Hid (acc = ext s.data.toList) := by
        have e := HA.out
        rw [drop_end s k hlt, ext_nil, List.append_nil] at e
        exact e
      go_wp2
      go_ret
      exact ⟨ret_str (by rw [HE.out]), HB.out⟩

set_option maxHeartbeats 1000000 in
set_option maxRecDepth 100000 in
theorem law_match (s : ByteArray) (w : World) (hs : s.size ≤ maxLen) :
    Calls Try.prog 8 #[.string s] w fun e w' => Done w e w' := by
  have HS : Hid (s.size ≤ maxLen) := hs
  unfold maxLen at hs
  go_enter Try.func8, Try.ntmps8
  go_wp2_with fail
  refine (bytes21 s w HS.out).mono ?_
  rintro e w ⟨b, rfl, rfl⟩
  cases b with
  | false =>
    go_wp2
    go_ret
    exact ⟨rfl, Below.refl _ _⟩
  | true =>
  by_cases hbig : 4096 < s.size
  · have hb' : (4096 : Int) < (s.size : Int) := by omega
    go_wp2
    go_ret
    exact ⟨rfl, Below.refl _ _⟩
  have hb' : ¬ (4096 : Int) < (s.size : Int) := by omega
  go_wp2_with fail
  refine (zzTerms_any s w (by omega)).mono ?_
  rintro e w1 ⟨rfl, b1⟩
  have B1 : Hid (Below w.heap.size w w1) := b1
  clear b1
  go_wp2_with fail
  refine (model_any s w1 (by omega)).mono ?_
  rintro e w2 ⟨rfl, b2⟩
  have B2 : Hid (Below w.heap.size w w2) := B1.out.trans (b2.mono B1.out.size)
  clear b2
  go_wp2
  go_ret
  exact ⟨by simp, B2.out⟩
end Go.Proofs.Qxb6602355a
