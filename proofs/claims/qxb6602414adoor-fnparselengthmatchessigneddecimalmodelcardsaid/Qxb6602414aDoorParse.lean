/-
  Seat b6602414aD. The contract of 'parseLength' and of its shim.
-/
import Derived.Test.Qxb6602414aDoorAtoi
import Derived.Shelf.Bytes.Small
import Derived.Lib.SlFresh
import Derived.Lib.SlBytesConst
import Derived.Laws.IdiomStrings
import Derived.Deep.QuietTactic
import Derived.BigQuiet
import Derived.WalkSpells
namespace Go.Proofs.Qxb6602414aDoor
open Go.RowKit

/-- The k bytes l lie from ⟨b, off⟩ on. -/
def ByteRow (w : World) (b off : Nat) (l : List UInt8) : Prop := ∀ i, i < l.length → w.cell? ⟨b, off + i, none⟩ = some (.int .u8 ((l.getD i 0).toNat : Int))

theorem ByteRow.below {w w' : World} {b off : Nat} {l : List UInt8} (h : ByteRow w b off l) (hb : Below w.heap.size w w') : ByteRow w' b off l := fun i hi =>
  (hb.cell (p := ⟨b, off + i, none⟩) (block_lt_of_cell (h i hi))).trans (h i hi)

theorem ByteRow.drop {w : World} {b off : Nat} {l : List UInt8} (h : ByteRow w b off l) (k : Nat) : ByteRow w b (off + k) (l.drop k) := fun i hi => by
  rw [List.length_drop] at hi
  have := h (k + i) (by omega)
  rw [Nat.add_assoc, this]
  simp [List.getD]

theorem ByteRow.take {w : World} {b off : Nat} {l : List UInt8} (h : ByteRow w b off l) (k : Nat) : ByteRow w b off (l.take k) := fun i hi => by
  rw [List.length_take] at hi
  rw [h i (by omega)]
  simp [List.getD, show i < k by omega]

theorem ByteRow.nums {w : World} {b off n : Nat} {l : List UInt8} (h : ByteRow w b off l) (hn : l.length = n) : ∀ i, i < n → w.cell? ⟨b, off + i, none⟩ = some (.int .u8 ((Lib.numsL l).getD i 0)) := fun i hi => by
  rw [h i (by omega)]
  have hi' : i < l.length := by omega
  simp [Lib.numsL, List.getD, List.getElem?_eq_getElem hi']

theorem below_drews {B : Nat} {a w : World} (h : Below B a w) (n : Nat) : Below B a (w.drewN n) := h.trans ⟨rfl, rfl, rfl, Nat.le_refl _, fun _ _ => rfl⟩

theorem ret_two {a a' : Int} {b b' : Bool} (h1 : a = a') (h2 : b = b') : Ending.returned (.tuple #[.int .i64 a, .bool b]) = .returned (.tuple #[.int .i64 a', .bool b']) := by rw [h1, h2]

/-- parseLength. -/
def pl (l : List UInt8) : Int × Bool := if Lib.hasSuffix (l.drop 1) [13, 10] then pend ((l.drop 1).take (l.length - 3)) else (0, false)

theorem string_of {w : World} {b off cap n : Nat} {d : List UInt8} (h : ByteRow w b off d) (hn : d.length = n) : (convert 22 9 (.slice (some ⟨b, off, none⟩) n cap)).run Tryd.prog w = .ok (.string ⟨d.toArray⟩) w := by
  subst hn
  refine run_convert_bytes_back w 22 9 5 ⟨b, off, none⟩ cap d Tryd.underlying22 Tryd.underlying5 Tryd.underlying9 (fun j hj => ?_)
  rw [Addr.add_lit, h j hj]
  simp [List.getD, List.getElem?_eq_getElem hj]

/-- bytes.CutSuffix at CR LF, found. -/
theorem cut_yes (b o c g n : Nat) (d : List UInt8) (w : World) (hn : d.length = n) (hr : ByteRow w b o d) (hg : ByteRow w g 0 [13, 10]) (hc : n ≤ c) (hbig : n ≤ 1048576) (hs : Lib.hasSuffix d [13, 10] = true) :
    Calls Tryd.prog 24 #[.slice (some ⟨b, o, none⟩) n c, .slice (some ⟨g, 0, none⟩) 2 2] w fun e w' => e = .returned (.tuple #[.slice (some ⟨b, o, none⟩) (n - 2) c, .bool true]) ∧ w' = w := by
  have h := Any.bytes_CutSuffix Tryd.laysnb142 b o n c g 0 2 2 (Lib.numsL d) (Lib.numsL [13, 10]) w (by rw [Lib.numsL_length]; exact hn) rfl hc (by omega) (hr.nums hn) (hg.nums rfl)
  have e1 : Lib.hasSuffix (Lib.bytesOf (Lib.numsL d)) (Lib.bytesOf (Lib.numsL [13, 10])) = true := by rw [Lib.bytesOf_numsL, Lib.bytesOf_numsL]; exact hs
  have e2 : Lib.bytesTrimSuffix b o n c (Lib.numsL d) (Lib.numsL [13, 10]) = .slice (some ⟨b, o, none⟩) (n - 2) c := by
    unfold Lib.bytesTrimSuffix
    rw [e1]
    rfl
  rw [e1, e2] at h
  exact h

/-- bytes.CutSuffix at CR LF, not found. -/
theorem cut_no (b o c g n : Nat) (d : List UInt8) (w : World) (hn : d.length = n) (hr : ByteRow w b o d) (hg : ByteRow w g 0 [13, 10]) (hc : n ≤ c) (hbig : n ≤ 1048576) (hs : Lib.hasSuffix d [13, 10] = false) :
    Calls Tryd.prog 24 #[.slice (some ⟨b, o, none⟩) n c, .slice (some ⟨g, 0, none⟩) 2 2] w fun e w' => e = .returned (.tuple #[.slice (some ⟨b, o, none⟩) n c, .bool false]) ∧ w' = w := by
  have h := Any.bytes_CutSuffix Tryd.laysnb142 b o n c g 0 2 2 (Lib.numsL d) (Lib.numsL [13, 10]) w (by rw [Lib.numsL_length]; exact hn) rfl hc (by omega) (hr.nums hn) (hg.nums rfl)
  have e1 : Lib.hasSuffix (Lib.bytesOf (Lib.numsL d)) (Lib.bytesOf (Lib.numsL [13, 10])) = false := by rw [Lib.bytesOf_numsL, Lib.bytesOf_numsL]; exact hs
  have e2 : Lib.bytesTrimSuffix b o n c (Lib.numsL d) (Lib.numsL [13, 10]) = .slice (some ⟨b, o, none⟩) n c := by
    unfold Lib.bytesTrimSuffix
    rw [e1]
    rfl
  rw [e1, e2] at h
  exact h

theorem suffix_row (w : World) : ByteRow (w.alloc (.cells #[.int .u8 13, .int .u8 10] 5 (2, 3))) w.heap.size 0 [13, 10] := fun i hi => by
  rw [World.cell?_alloc_mark]
  match i, hi with
  | 0, _ => rfl
  | 1, _ => rfl

theorem pl_no {l : List UInt8} (h : Lib.hasSuffix (l.drop 1) [13, 10] = false) : pl l = (0, false) := by unfold pl; rw [h]; rfl
theorem pl_yes {l : List UInt8} (h : Lib.hasSuffix (l.drop 1) [13, 10] = true) : pl l = pend ((l.drop 1).take (l.length - 3)) := by unfold pl; rw [h]; rfl
theorem suffix_le {l : List UInt8} (h : Lib.hasSuffix (l.drop 1) [13, 10] = true) : 3 ≤ l.length := by
  have := Lib.hasSuffix_le h
  rw [List.length_drop] at this
  simp at this
  omega

set_option maxHeartbeats 2000000 in
set_option maxRecDepth 100000 in
theorem parse_any (b off : Nat) (l : List UInt8) (w : World) (hr : ByteRow w b off l) (h1 : 2 ≤ l.length) (hl : l.length ≤ 1048576) (e0 : ErrCell w 0) (e1 : ErrCell w 1) (hb2 : 2 ≤ w.heap.size) :
    Calls Tryd.prog 21 #[.slice (some ⟨b, off, none⟩) l.length l.length] w fun e w' => e = .returned (.tuple #[.int .i64 (pl l).1, .bool (pl l).2]) ∧ Below w.heap.size w w' := by
  have kc := fun (w : World) (C : Array Value) (n c : Nat) => Lib.run_convert_bytes_const (P := Tryd.prog) w 22 5 C n c Tryd.underlying22 Tryd.underlying5
  have HR : Hid (ByteRow w b off l) := hr
  have E0 : Hid (ErrCell w 0) := e0
  have E1 : Hid (ErrCell w 1) := e1
  clear hr e0 e1
  obtain ⟨k, hk⟩ : ∃ k, k = l.length := ⟨_, rfl⟩
  rw [← hk] at h1 hl ⊢
  have HK : Hid (k = l.length) := hk
  clear hk
  have hk1 : (1 : Int) ≤ (k : Int) := by omega
  go_enter Tryd.func21, Tryd.ntmps21
  go_wp2_with fail
  have hrow : ByteRow (w.alloc (.cells #[.int .u8 13, .int .u8 10] 5 (2, 3))) b (off + 1) (l.drop 1) := (HR.out.below ((Below.refl _ w).alloc (Nat.le_refl _) _)).drop 1
  have hld : (l.drop 1).length = k - 1 := by rw [List.length_drop, HK.out]
  have hbel : Below w.heap.size w (w.alloc (.cells #[.int .u8 13, .int .u8 10] 5 (2, 3))) := (Below.refl _ w).alloc (Nat.le_refl _) _
  cases hs : Lib.hasSuffix (l.drop 1) [13, 10] with
  | false =>
    have HP : Hid (pl l = (0, false)) := pl_no hs
    refine (cut_no b (off + 1) (k - 1) w.heap.size (k - 1) (l.drop 1) _ hld hrow (suffix_row w) (Nat.le_refl _) (by omega) hs).mono ?_
    have HB : Hid _ := hbel
    clear hs hrow hld hbel
    rintro e w1 ⟨rfl, rfl⟩
    go_wp2
    go_ret2
    exact ⟨ret_two (a := 0) (b := false) (by rw [HP.out]) (by rw [HP.out]), HB.out⟩
  | true =>
    have h3 := suffix_le hs
    rw [← HK.out] at h3
    have hp := pl_yes hs
    rw [← HK.out] at hp
    refine (cut_yes b (off + 1) (k - 1) w.heap.size (k - 1) (l.drop 1) _ hld hrow (suffix_row w) (Nat.le_refl _) (by omega) hs).mono ?_
    have hcv := string_of (cap := k - 1) (n := k - 1 - 2) (hrow.take (k - 3)) (by rw [List.length_take, hld]; omega)
    obtain ⟨d, hd⟩ : ∃ d, d = (l.drop 1).take (k - 3) := ⟨_, rfl⟩
    have hdl : d.length ≤ 1048576 := by rw [hd, List.length_take]; omega
    rw [← hd] at hp hcv
    have HP : Hid (pl l = pend d) := hp
    have HB : Hid (Below w.heap.size w (w.alloc (.cells #[.int .u8 13, .int .u8 10] 5 (2, 3)))) := hbel
    have F0 : Hid (ErrCell (w.alloc (.cells #[.int .u8 13, .int .u8 10] 5 (2, 3))) 0) := E0.out.below hbel (by omega)
    have F1 : Hid (ErrCell (w.alloc (.cells #[.int .u8 13, .int .u8 10] 5 (2, 3))) 1) := E1.out.below hbel (by omega)
    have HDL : Hid ((⟨d.toArray⟩ : ByteArray).size ≤ 1048576) := by show d.toArray.size ≤ 1048576; simpa using hdl
    clear hs hrow hld hbel hp hd hdl
    rintro e w1 ⟨rfl, rfl⟩
    go_wp2_with fail
    refine (atoi_any ⟨d.toArray⟩ _ HDL.out F0.out F1.out).mono ?_
    rintro e w2 ⟨er, rfl, her, b2⟩
    have B2 : Hid (Below w.heap.size w w2) := HB.out.trans (b2.mono HB.out.size)
    have ed : (⟨d.toArray⟩ : ByteArray).data.toList = d := by simp
    rw [ed] at her ⊢
    clear b2 ed hcv
    rcases her with ⟨rfl, hok⟩ | ⟨⟨t, a, rfl⟩, hok⟩
    · have HOK : Hid ((pend d).2 = true) := hok
      clear hok
      go_wp2
      go_quiet (fail)
      go_wp2
      go_ret2
      exact ⟨ret_two (a := (pend d).1) (b := true) (by rw [HP.out]) (by rw [HP.out, HOK.out]), below_drews B2.out _⟩
    · have HOK : Hid ((pend d).2 = false) := hok
      clear hok
      go_wp2
      go_quiet (fail)
      go_wp2
      go_ret2
      exact ⟨ret_two (a := (pend d).1) (b := false) (by rw [HP.out]) (by rw [HP.out, HOK.out]), below_drews B2.out _⟩

theorem cut_none (p1 p2 : Option Addr) (c m d : Nat) (hm : 0 < m) (w : World) :
    Calls Tryd.prog 24 #[.slice p1 0 c, .slice p2 m d] w fun e w' => e = .returned (.tuple #[.slice p1 0 c, .bool false]) ∧ w' = w := Any.bytes_CutSuffix_e1 Tryd.laysnb142 p1 p2 c m d hm w

set_option maxHeartbeats 2000000 in
set_option maxRecDepth 100000 in
theorem parse_one (b off : Nat) (l : List UInt8) (w : World) (h1 : l.length = 1) :
    Calls Tryd.prog 21 #[.slice (some ⟨b, off, none⟩) 1 1] w fun e w' => e = .returned (.tuple #[.int .i64 (pl l).1, .bool (pl l).2]) ∧ Below w.heap.size w w' := by
  have kc := fun (w : World) (C : Array Value) (n c : Nat) => Lib.run_convert_bytes_const (P := Tryd.prog) w 22 5 C n c Tryd.underlying22 Tryd.underlying5
  have HP : Hid (pl l = (0, false)) := by
    match l, h1 with
    | [c], _ => rfl
  have HB : Hid (Below w.heap.size w (w.alloc (.cells #[.int .u8 13, .int .u8 10] 5 (2, 3)))) := (Below.refl _ w).alloc (Nat.le_refl _) _
  clear h1
  go_enter Tryd.func21, Tryd.ntmps21
  go_wp2_with (go_at_call 24; refine (cut_none _ _ _ _ _ (by decide) _).mono ?_; rintro e w1 ⟨rfl, rfl⟩)
  go_ret2
  exact ⟨ret_two (a := 0) (b := false) (by rw [HP.out]) (by rw [HP.out]), HB.out⟩

theorem parse_all (b off k : Nat) (l : List UInt8) (w : World) (hr : ByteRow w b off l) (hk : l.length = k) (h1 : 1 ≤ k) (hl : k ≤ 1048576) (e0 : ErrCell w 0) (e1 : ErrCell w 1) (hb2 : 2 ≤ w.heap.size) :
    Calls Tryd.prog 21 #[.slice (some ⟨b, off, none⟩) k k] w fun e w' => e = .returned (.tuple #[.int .i64 (pl l).1, .bool (pl l).2]) ∧ Below w.heap.size w w' := by
  subst hk
  by_cases h : l.length = 1
  · rw [h]; exact parse_one b off l w h
  · exact parse_any b off l w hr (by omega) hl e0 e1 hb2

set_option maxHeartbeats 1000000 in
theorem zzParse (b off k : Nat) (l : List UInt8) (w : World) (hr : ByteRow w b off l) (hk : l.length = k) (h1 : 1 ≤ k) (hl : k ≤ 1048576) (e0 : ErrCell w 0) (e1 : ErrCell w 1) (hb2 : 2 ≤ w.heap.size) :
    Calls Tryd.prog 14 #[.slice (some ⟨b, off, none⟩) k k] w fun e w' => e = .returned (.tuple #[.int .i64 (pl l).1, .bool (pl l).2]) ∧ Below w.heap.size w w' := by
  have H : Hid (ByteRow w b off l ∧ l.length = k ∧ ErrCell w 0 ∧ ErrCell w 1) := ⟨hr, hk, e0, e1⟩
  clear hr hk e0 e1
  go_enter Tryd.func14, Tryd.ntmps14
  go_wp2_with (go_at_call 21; refine (parse_all b off k l _ H.out.1 H.out.2.1 h1 hl H.out.2.2.1 H.out.2.2.2 hb2).mono ?_; rintro e w1 ⟨rfl, b1⟩)
  go_ret2
  exact ⟨rfl, b1⟩
end Go.Proofs.Qxb6602414aDoor
