/-
  Seat b6602414aD. The contract of 'zzHeaderLengthModel': it ends as parseLength ends. That of 'zzBytes..': some bool.
-/
import Derived.Test.Qxb6602414aDoorModel
namespace Go.Proofs.Qxb6602414aDoor
open Go.RowKit

theorem suffix_at (l : List UInt8) (k : Nat) (hk : l.length = k) (h3 : 3 ≤ k) : Lib.hasSuffix (l.drop 1) [13, 10] = (l.getD (k - 2) 0 == 13 && l.getD (k - 1) 0 == 10) := by
  rw [← Lib.hasSuffix_of_drop, List.length_drop, hk]
  have e1 : (l.drop 1).drop (k - 1 - 2) = [l.getD (k - 2) 0, l.getD (k - 1) 0] := by
    rw [List.drop_drop, show 1 + (k - 1 - 2) = k - 2 by omega, drop_getD l (k - 2) (by omega), show k - 2 + 1 = k - 1 by omega, drop_getD l (k - 1) (by omega)]
    rw [show k - 1 + 1 = k by omega, List.drop_eq_nil_iff.2 (by omega)]
  show (decide (2 ≤ k - 1) && ((l.drop 1).drop (k - 1 - 2) == [13, 10])) = _
  rw [e1]
  have e2 : decide (2 ≤ k - 1) = true := by simp; omega
  rw [e2]
  simp

theorem u8_eq (c : UInt8) (m : Nat) (hm : m < 256) : (c == UInt8.ofNat m) = decide ((c.toNat : Int) = (m : Int)) := by
  have e : (c = UInt8.ofNat m) ↔ ((c.toNat : Int) = (m : Int)) := by
    constructor
    · intro h; rw [h]; simp [UInt8.toNat_ofNat', Nat.mod_eq_of_lt hm]
    · intro h
      apply UInt8.toNat_inj.1
      simp [UInt8.toNat_ofNat', Nat.mod_eq_of_lt hm]
      omega
  by_cases h : c = UInt8.ofNat m
  · rw [beq_iff_eq.2 h, decide_eq_true (e.1 h)]
  · rw [beq_eq_false_iff_ne.2 h, decide_eq_false (fun hh => h (e.2 hh))]

theorem u8_13 (c : UInt8) : (c == 13) = decide ((c.toNat : Int) = 13) := u8_eq c 13 (by decide)
theorem u8_10 (c : UInt8) : (c == 10) = decide ((c.toNat : Int) = 10) := u8_eq c 10 (by decide)

theorem pl_short {l : List UInt8} (h : l.length < 3) : pl l = (0, false) := by
  refine pl_no ?_
  cases hs : Lib.hasSuffix (l.drop 1) [13, 10] with
  | false => rfl
  | true => have := suffix_le hs; omega

set_option maxHeartbeats 4000000 in
set_option maxRecDepth 100000 in
theorem header_any (b off k : Nat) (l : List UInt8) (w : World) (hr : ByteRow w b off l) (hk : l.length = k) (hl : k ≤ 1048576) :
    Calls Tryd.prog 15 #[.slice (some ⟨b, off, none⟩) k k] w fun e w' => e = .returned (.tuple #[.int .i64 (pl l).1, .bool (pl l).2]) ∧ w' = w := by
  by_cases h3 : k < 3
  · have W : Hid (pl l = (0, false)) := pl_short (by omega)
    clear hr hk
    go_enter Tryd.func15, Tryd.ntmps15
    go_wp2
    go_ret2
    exact ⟨ret_two (a := 0) (b := false) (by rw [W.out]) (by rw [W.out]), rfl⟩
  · have hsx := suffix_at l k hk (by omega)
    obtain ⟨m, rfl⟩ : ∃ m, k = m + 3 := ⟨k - 3, by omega⟩
    have c2 := hr (m + 1) (by omega)
    have c1 := hr (m + 2) (by omega)
    rw [show m + 3 - 2 = m + 1 by omega, show m + 3 - 1 = m + 2 by omega, u8_13, u8_10] at hsx
    obtain ⟨z2, hz2⟩ : ∃ z : Int, z = ((l.getD (m + 1) 0).toNat : Int) := ⟨_, rfl⟩
    obtain ⟨z1, hz1⟩ : ∃ z : Int, z = ((l.getD (m + 2) 0).toNat : Int) := ⟨_, rfl⟩
    rw [← hz2] at c2 hsx
    rw [← hz1] at c1 hsx
    clear hz2 hz1
    by_cases e2 : z2 = 13
    · by_cases e1 : z1 = 10
      · obtain ⟨d, hd⟩ : ∃ d, d = (l.drop 1).take m := ⟨_, rfl⟩
        have W : Hid (pl l = pend d) := by rw [pl_yes (by rw [hsx, e2, e1]; rfl), hk, hd]; rfl
        have HR : Hid (ByteRow w b (off + 1) d ∧ d.length = m) := by rw [hd]; exact ⟨(hr.drop 1).take m, by rw [List.length_take, List.length_drop]; omega⟩
        clear hr hk hsx hd
        subst e1 e2
        go_enter Tryd.func15, Tryd.ntmps15
        go_wp2_with fail
        refine (sd_any b (off + 1) m (m + 2) d _ HR.out.1 HR.out.2 (by omega)).mono ?_
        rintro e w1 ⟨rfl, rfl⟩
        go_wp2
        go_ret2
        exact ⟨ret_two (a := (pend d).1) (b := (pend d).2) (by rw [W.out]) (by rw [W.out]), rfl⟩
      · have W : Hid (pl l = (0, false)) := pl_no (by rw [hsx, decide_eq_false e1, Bool.and_false])
        have e1' : (z1 != 10) = true := by simpa using e1
        clear hr hk hsx
        subst e2
        go_enter Tryd.func15, Tryd.ntmps15
        go_wp2
        go_ret2
        exact ⟨ret_two (a := 0) (b := false) (by rw [W.out]) (by rw [W.out]), rfl⟩
    · have W : Hid (pl l = (0, false)) := pl_no (by rw [hsx, decide_eq_false e2, Bool.false_and])
      have e2' : (z2 != 13) = true := by simpa using e2
      clear hr hk hsx
      go_enter Tryd.func15, Tryd.ntmps15
      go_wp2
      go_ret2
      exact ⟨ret_two (a := 0) (b := false) (by rw [W.out]) (by rw [W.out]), rfl⟩

set_option maxHeartbeats 1000000 in
set_option maxRecDepth 100000 in
/-- 'zzBytes..': whether the row is at most 1048576 long. -/
theorem bytes_any (a : Option Addr) (n c : Nat) (w : World) (hn : (n : Int) ≤ 9223372036854775807) :
    Calls Tryd.prog 13 #[.slice a n c] w fun e w' => (e = .returned (.bool (decide (n ≤ 1048576)))) ∧ w' = w := by
  by_cases h : n ≤ 1048576
  · have H : Hid (decide (n ≤ 1048576) = true) := decide_eq_true h
    go_enter Tryd.func13, Tryd.ntmps13
    go_wp2
    go_ret
    exact ⟨by rw [H.out]; rfl, rfl⟩
  · have H : Hid (decide (n ≤ 1048576) = false) := decide_eq_false h
    go_enter Tryd.func13, Tryd.ntmps13
    go_wp2
    go_ret
    exact ⟨by rw [H.out]; rfl, rfl⟩
end Go.Proofs.Qxb6602414aDoor
