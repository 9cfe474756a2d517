/-
  Seat b6602414aD. The contract of 'zzSignedDecimalModel': it ends as Atoi ends.
-/
import Derived.Test.Qxb6602414aDoorParse
namespace Go.Proofs.Qxb6602414aDoor
open Go.RowKit

/-- What the digits' loop knows at k. -/
def Acc (l : List UInt8) (j k : Nat) (a : Int) : Prop := ∃ acc : Nat, a = (acc : Int) ∧ Lib.parseUint10 acc (l.drop k) = Lib.parseUint10 0 (l.drop j)

/-- How the parse ends, by the sign and the place where the digits begin. -/
def PendIs (l : List UInt8) (neg : Bool) (j : Nat) : Prop := pend l = mEnd neg (Lib.parseUint10 0 (l.drop j))

theorem drop_getD (l : List UInt8) (k : Nat) (h : k < l.length) : l.drop k = l.getD k 0 :: l.drop (k + 1) := by
  rw [List.drop_eq_getElem_cons h]
  simp [List.getD, List.getElem?_eq_getElem h]

theorem acc_start (l : List UInt8) (j : Nat) : Acc l j j 0 := ⟨0, rfl, rfl⟩

theorem acc_step {l : List UInt8} {j k : Nat} {a z : Int} (hk : k < l.length) (hz : z = ((l.getD k 0).toNat : Int)) (h1 : 48 ≤ z) (h2 : z ≤ 57) (ho : a ≤ (18446744073709551615 - (z - 48)) / 10) (h : Acc l j k a) : Acc l j (k + 1) (a * 10 + (z - 48)) := by
  obtain ⟨acc, rfl, e⟩ := h
  refine ⟨acc * 10 + ((l.getD k 0).toNat - 48), by omega, ?_⟩
  rw [← e, drop_getD l k hk, pu_step acc _ _ ⟨by omega, by omega⟩ (by omega)]

theorem acc_over {l : List UInt8} {neg : Bool} {j k : Nat} {a z : Int} (hk : k < l.length) (hz : z = ((l.getD k 0).toNat : Int)) (h1 : 48 ≤ z) (h2 : z ≤ 57) (ho : (18446744073709551615 - (z - 48)) / 10 < a) (h : Acc l j k a) (hp : PendIs l neg j) :
    pend l = (if neg then -9223372036854775808 else 9223372036854775807, false) := by
  obtain ⟨acc, rfl, e⟩ := h
  unfold PendIs at hp
  rw [hp, ← e, drop_getD l k hk, pu_over neg acc _ _ ⟨by omega, by omega⟩ (by omega)]

theorem acc_bad {l : List UInt8} {neg : Bool} {j k : Nat} {a z : Int} (hk : k < l.length) (hz : z = ((l.getD k 0).toNat : Int)) (hb : ¬ (48 ≤ z ∧ z ≤ 57)) (h : Acc l j k a) (hp : PendIs l neg j) : pend l = (0, false) := by
  obtain ⟨acc, rfl, e⟩ := h
  unfold PendIs at hp
  rw [hp, ← e, drop_getD l k hk, pu_bad neg acc _ _ (fun hh => hb ⟨by omega, by omega⟩)]

theorem acc_end {l : List UInt8} {neg : Bool} {j k : Nat} {a : Int} (hk : ¬ k < l.length) (h : Acc l j k a) (hp : PendIs l neg j) :
    pend l = if neg then (if 9223372036854775808 < a then (-9223372036854775808, false) else (-a, true)) else (if 9223372036854775808 ≤ a then (9223372036854775807, false) else (a, true)) := by
  obtain ⟨acc, rfl, e⟩ := h
  unfold PendIs at hp
  have hd : l.drop k = [] := by rw [List.drop_eq_nil_iff]; omega
  rw [hp, ← e, hd, pu_end]
  cases neg with
  | true =>
    by_cases hh : 9223372036854775808 < acc
    · rw [if_pos rfl, if_pos hh, if_pos rfl, if_pos (by omega)]
    · rw [if_pos rfl, if_neg hh, if_pos rfl, if_neg (by omega)]
  | false =>
    by_cases hh : 9223372036854775808 ≤ acc
    · rw [if_neg (by decide), if_pos hh, if_neg (by decide), if_pos (by omega)]
    · rw [if_neg (by decide), if_neg hh, if_neg (by decide), if_neg (by omega)]

theorem end_min {l : List UInt8} {j k : Nat} {a : Int} (hk : ¬ k < l.length) (h : Acc l j k a) (hp : PendIs l true j) (ha : 9223372036854775808 < a) : pend l = (-9223372036854775808, false) := by
  rw [acc_end hk h hp, if_pos rfl, if_pos ha]
theorem end_neg {l : List UInt8} {j k : Nat} {a : Int} (hk : ¬ k < l.length) (h : Acc l j k a) (hp : PendIs l true j) (ha : ¬ 9223372036854775808 < a) : pend l = (-a, true) := by
  rw [acc_end hk h hp, if_pos rfl, if_neg ha]
theorem end_max {l : List UInt8} {j k : Nat} {a : Int} (hk : ¬ k < l.length) (h : Acc l j k a) (hp : PendIs l false j) (ha : 9223372036854775807 < a) : pend l = (9223372036854775807, false) := by
  rw [acc_end hk h hp, if_neg (by decide), if_pos (by omega)]
theorem end_pos {l : List UInt8} {j k : Nat} {a : Int} (hk : ¬ k < l.length) (h : Acc l j k a) (hp : PendIs l false j) (ha : ¬ 9223372036854775807 < a) : pend l = (a, true) := by
  rw [acc_end hk h hp, if_neg (by decide), if_neg (by omega)]

theorem head_drop (l : List UInt8) (h : 1 ≤ l.length) : l = l.getD 0 0 :: l.drop 1 := by
  have := drop_getD l 0 (by omega)
  simpa using this

theorem pend_plain {l : List UInt8} {z : Int} (h : 1 ≤ l.length) (hz : z = ((l.getD 0 0).toNat : Int)) (h43 : (z == 43) = false) (h45 : (z == 45) = false) : PendIs l false 0 := by
  have e43 : ¬ z = 43 := by simpa using h43
  have e45 : ¬ z = 45 := by simpa using h45
  have e := head_drop l h
  unfold PendIs
  rw [List.drop_zero]
  have p := pend_of (l.getD 0 0) (l.drop 1) (l.getD 0 0 :: l.drop 1) false ⟨fun h => (by cases h), fun h => (by omega)⟩ (by rw [if_neg (by omega)])
  rw [← e] at p
  rw [p]
  have e2 : Lib.parseMag l = Lib.parseUint10 0 l := by rw [e]; rfl
  rw [e2]

theorem pend_signed {l : List UInt8} {z : Int} {neg : Bool} (h : 2 ≤ l.length) (hz : z = ((l.getD 0 0).toNat : Int)) (hs : z = 43 ∨ z = 45) (hn : neg = true ↔ z = 45) : PendIs l neg 1 := by
  have e := head_drop l (by omega)
  unfold PendIs
  have p := pend_of (l.getD 0 0) (l.drop 1) (l.drop 1) neg (hn.trans ⟨fun h => by omega, fun h => by omega⟩) (by rw [if_pos (by omega)])
  rw [← e] at p
  rw [p]
  have e3 := drop_getD l 1 (by omega)
  have e2 : Lib.parseMag (l.drop 1) = Lib.parseUint10 0 (l.drop 1) := by rw [e3]; rfl
  rw [e2]

theorem pend_bare {l : List UInt8} {z : Int} (h : l.length = 1) (hz : z = ((l.getD 0 0).toNat : Int)) (hs : z = 43 ∨ z = 45) : pend l = (0, false) := by
  have e := head_drop l (by omega)
  have hd : l.drop 1 = [] := by rw [List.drop_eq_nil_iff]; omega
  have p := pend_of (l.getD 0 0) (l.drop 1) (l.drop 1) (decide (z = 45)) ⟨fun h => by simp at h; omega, fun h => by simp; omega⟩ (by rw [if_pos (by omega)])
  rw [← e, hd] at p
  rw [p]; rfl

set_option maxHeartbeats 4000000 in
set_option maxRecDepth 100000 in
theorem sd_plain (b off n c : Nat) (l : List UInt8) (w : World) (hr : ByteRow w b off l) (hn : l.length = n) (h1 : 1 ≤ n) (hl : n ≤ 1048576) (z0 : Int) (hz : z0 = ((l.getD 0 0).toNat : Int)) (h43 : (z0 == 43) = false) (h45 : (z0 == 45) = false) :
    Calls Tryd.prog 22 #[.slice (some ⟨b, off, none⟩) n c] w fun e w' => e = .returned (.tuple #[.int .i64 (pend l).1, .bool (pend l).2]) ∧ w' = w := by
  have hc0 : w.cell? ⟨b, off, none⟩ = some (.int .u8 z0) := by have := hr 0 (by omega); rw [Nat.add_zero] at this; rw [this, hz]
  have HR : Hid (ByteRow w b off l ∧ l.length = n) := ⟨hr, hn⟩
  have HP : Hid (PendIs l false 0) := pend_plain (by omega) hz h43 h45
  have hp : (0 : Int) < (n : Int) := by omega
  have hne : ((n : Int) == 0) = false := by simp; omega
  clear hr hn hz
  go_enter Tryd.func22, Tryd.ntmps22
  go_wp2
  go_loop [7, 9] (fun i u => ∃ (k : Nat) (a : Int), 0 ≤ k ∧ k ≤ n ∧ i = .int .i64 k ∧ u = .int .u64 a ∧ 0 ≤ a ∧ a ≤ 18446744073709551615 ∧ Hid (Acc l 0 k a)) (fun i _ => n - (intOf i).toNat)
  case atStart => exact ⟨0, 0, Nat.le_refl _, by omega, rfl, rfl, by omega, by omega, acc_start l 0⟩
  case round =>
    obtain ⟨k, a, hj, hk, rfl, rfl, ha0, ha1, hA⟩ := hrel
    by_cases hlt : k < n
    · have hkl : Hid (k < l.length) := by rw [HR.out.2]; exact hlt
      have hck := HR.out.1 k hkl.out
      obtain ⟨z, hz⟩ : ∃ z : Int, z = ((l.getD k 0).toNat : Int) := ⟨_, rfl⟩
      rw [← hz] at hck
      have hzb : 0 ≤ z ∧ z ≤ 255 := by have := (l.getD k 0).toNat_lt; omega
      have HZ : Hid (z = ((l.getD k 0).toNat : Int)) := hz
      clear hz
      by_cases hd : 48 ≤ z ∧ z ≤ 57
      · obtain ⟨hd1, hd2⟩ := hd
        by_cases ho : (18446744073709551615 - (z - 48)) / 10 < a
        · have W : Hid (pend l = (if false then -9223372036854775808 else 9223372036854775807, false)) := acc_over hkl.out HZ.out hd1 hd2 ho hA.out HP.out
          go_wp2
          go_ret2
          exact ⟨ret_two (a := 9223372036854775807) (b := false) (by rw [W.out]; rfl) (by rw [W.out]), rfl⟩
        · have W : Hid (Acc l 0 (k + 1) (a * 10 + (z - 48))) := acc_step hkl.out HZ.out hd1 hd2 (by omega) hA.out
          go_wp2
          go_round
          case rel => exact ⟨_, _, _, _, ⟨k + 1, by omega, by go_num, a * 10 + (z - 48), rfl, by omega, by omega, W⟩, rfl, rfl, rfl, rfl⟩
          case measure => simp [intOf]; omega
      · have W : Hid (pend l = (0, false)) := acc_bad hkl.out HZ.out hd hA.out HP.out
        by_cases hd1 : z < 48
        · clear hd
          go_wp2
          go_ret2
          exact ⟨ret_two (a := 0) (b := false) (by rw [W.out]) (by rw [W.out]), rfl⟩
        · have hd2 : 57 < z := by omega
          clear hd
          go_wp2
          go_ret2
          exact ⟨ret_two (a := 0) (b := false) (by rw [W.out]) (by rw [W.out]), rfl⟩
    · have hkl : Hid (¬ k < l.length) := by rw [HR.out.2]; exact hlt
      by_cases hm : 9223372036854775807 < a
      · have W : Hid (pend l = (9223372036854775807, false)) := end_max hkl.out hA.out HP.out hm
        go_wp2
        go_ret2
        exact ⟨ret_two (a := 9223372036854775807) (b := false) (by rw [W.out]) (by rw [W.out]), rfl⟩
      · have W : Hid (pend l = (a, true)) := end_pos hkl.out hA.out HP.out hm
        go_wp2
        go_ret2
        exact ⟨ret_two (a := a) (b := true) (by rw [W.out]) (by rw [W.out]), rfl⟩

set_option maxHeartbeats 4000000 in
set_option maxRecDepth 100000 in
theorem sd_plus (b off n c : Nat) (l : List UInt8) (w : World) (hr : ByteRow w b off l) (hn : l.length = n) (h1 : 2 ≤ n) (hl : n ≤ 1048576) (z0 : Int) (hz : z0 = ((l.getD 0 0).toNat : Int)) (hs : z0 = 43) :
    Calls Tryd.prog 22 #[.slice (some ⟨b, off, none⟩) n c] w fun e w' => e = .returned (.tuple #[.int .i64 (pend l).1, .bool (pend l).2]) ∧ w' = w := by
  have hc0 : w.cell? ⟨b, off, none⟩ = some (.int .u8 z0) := by have := hr 0 (by omega); rw [Nat.add_zero] at this; rw [this, hz]
  have HR : Hid (ByteRow w b off l ∧ l.length = n) := ⟨hr, hn⟩
  have HP : Hid (PendIs l false 1) := pend_signed (by omega) hz (.inl hs) ⟨fun h => (by cases h), fun h => (by omega)⟩
  have hp : (0 : Int) < (n : Int) := by omega
  have hne : ((n : Int) == 0) = false := by simp; omega
  have hne1 : ((1 : Int) == (n : Int)) = false := by simp; omega
  clear hr hn hz
  go_enter Tryd.func22, Tryd.ntmps22
  go_wp2
  go_loop [7, 9] (fun i u => ∃ (k : Nat) (a : Int), 1 ≤ k ∧ k ≤ n ∧ i = .int .i64 k ∧ u = .int .u64 a ∧ 0 ≤ a ∧ a ≤ 18446744073709551615 ∧ Hid (Acc l 1 k a)) (fun i _ => n - (intOf i).toNat)
  case atStart => exact ⟨1, 0, Nat.le_refl _, by omega, rfl, rfl, by omega, by omega, acc_start l 1⟩
  case round =>
    obtain ⟨k, a, hj, hk, rfl, rfl, ha0, ha1, hA⟩ := hrel
    by_cases hlt : k < n
    · have hkl : Hid (k < l.length) := by rw [HR.out.2]; exact hlt
      have hck := HR.out.1 k hkl.out
      obtain ⟨z, hz⟩ : ∃ z : Int, z = ((l.getD k 0).toNat : Int) := ⟨_, rfl⟩
      rw [← hz] at hck
      have hzb : 0 ≤ z ∧ z ≤ 255 := by have := (l.getD k 0).toNat_lt; omega
      have HZ : Hid (z = ((l.getD k 0).toNat : Int)) := hz
      clear hz
      by_cases hd : 48 ≤ z ∧ z ≤ 57
      · obtain ⟨hd1, hd2⟩ := hd
        by_cases ho : (18446744073709551615 - (z - 48)) / 10 < a
        · have W : Hid (pend l = (if false then -9223372036854775808 else 9223372036854775807, false)) := acc_over hkl.out HZ.out hd1 hd2 ho hA.out HP.out
          go_wp2
          go_ret2
          exact ⟨ret_two (a := 9223372036854775807) (b := false) (by rw [W.out]; rfl) (by rw [W.out]), rfl⟩
        · have W : Hid (Acc l 1 (k + 1) (a * 10 + (z - 48))) := acc_step hkl.out HZ.out hd1 hd2 (by omega) hA.out
          go_wp2
          go_round
          case rel => exact ⟨k + 1, a * 10 + (z - 48), by omega, by omega, by go_num, rfl, by omega, by omega, W⟩
          case measure => simp [intOf]; omega
      · have W : Hid (pend l = (0, false)) := acc_bad hkl.out HZ.out hd hA.out HP.out
        by_cases hd1 : z < 48
        · clear hd
          go_wp2
          go_ret2
          exact ⟨ret_two (a := 0) (b := false) (by rw [W.out]) (by rw [W.out]), rfl⟩
        · have hd2 : 57 < z := by omega
          clear hd
          go_wp2
          go_ret2
          exact ⟨ret_two (a := 0) (b := false) (by rw [W.out]) (by rw [W.out]), rfl⟩
    · have hkl : Hid (¬ k < l.length) := by rw [HR.out.2]; exact hlt
      by_cases hm : 9223372036854775807 < a
      · have W : Hid (pend l = (9223372036854775807, false)) := end_max hkl.out hA.out HP.out hm
        go_wp2
        go_ret2
        exact ⟨ret_two (a := 9223372036854775807) (b := false) (by rw [W.out]) (by rw [W.out]), rfl⟩
      · have W : Hid (pend l = (a, true)) := end_pos hkl.out hA.out HP.out hm
        go_wp2
        go_ret2
        exact ⟨ret_two (a := a) (b := true) (by rw [W.out]) (by rw [W.out]), rfl⟩

set_option maxHeartbeats 4000000 in
set_option maxRecDepth 100000 in
theorem sd_minus (b off n c : Nat) (l : List UInt8) (w : World) (hr : ByteRow w b off l) (hn : l.length = n) (h1 : 2 ≤ n) (hl : n ≤ 1048576) (z0 : Int) (hz : z0 = ((l.getD 0 0).toNat : Int)) (hs : z0 = 45) :
    Calls Tryd.prog 22 #[.slice (some ⟨b, off, none⟩) n c] w fun e w' => e = .returned (.tuple #[.int .i64 (pend l).1, .bool (pend l).2]) ∧ w' = w := by
  have hc0 : w.cell? ⟨b, off, none⟩ = some (.int .u8 z0) := by have := hr 0 (by omega); rw [Nat.add_zero] at this; rw [this, hz]
  have HR : Hid (ByteRow w b off l ∧ l.length = n) := ⟨hr, hn⟩
  have HP : Hid (PendIs l true 1) := pend_signed (by omega) hz (.inr hs) ⟨fun _ => hs, fun _ => rfl⟩
  have hp : (0 : Int) < (n : Int) := by omega
  have hne : ((n : Int) == 0) = false := by simp; omega
  have hne1 : ((1 : Int) == (n : Int)) = false := by simp; omega
  clear hr hn hz
  go_enter Tryd.func22, Tryd.ntmps22
  go_wp2
  go_loop [7, 9] (fun i u => ∃ (k : Nat) (a : Int), 1 ≤ k ∧ k ≤ n ∧ i = .int .i64 k ∧ u = .int .u64 a ∧ 0 ≤ a ∧ a ≤ 18446744073709551615 ∧ Hid (Acc l 1 k a)) (fun i _ => n - (intOf i).toNat)
  case atStart => exact ⟨1, 0, Nat.le_refl _, by omega, rfl, rfl, by omega, by omega, acc_start l 1⟩
  case round =>
    obtain ⟨k, a, hj, hk, rfl, rfl, ha0, ha1, hA⟩ := hrel
    by_cases hlt : k < n
    · have hkl : Hid (k < l.length) := by rw [HR.out.2]; exact hlt
      have hck := HR.out.1 k hkl.out
      obtain ⟨z, hz⟩ : ∃ z : Int, z = ((l.getD k 0).toNat : Int) := ⟨_, rfl⟩
      rw [← hz] at hck
      have hzb : 0 ≤ z ∧ z ≤ 255 := by have := (l.getD k 0).toNat_lt; omega
      have HZ : Hid (z = ((l.getD k 0).toNat : Int)) := hz
      clear hz
      by_cases hd : 48 ≤ z ∧ z ≤ 57
      · obtain ⟨hd1, hd2⟩ := hd
        by_cases ho : (18446744073709551615 - (z - 48)) / 10 < a
        · have W : Hid (pend l = (if true then -9223372036854775808 else 9223372036854775807, false)) := acc_over hkl.out HZ.out hd1 hd2 ho hA.out HP.out
          go_wp2
          go_ret2
          exact ⟨ret_two (a := -9223372036854775808) (b := false) (by rw [W.out]; rfl) (by rw [W.out]), rfl⟩
        · have W : Hid (Acc l 1 (k + 1) (a * 10 + (z - 48))) := acc_step hkl.out HZ.out hd1 hd2 (by omega) hA.out
          go_wp2
          go_round
          case rel => exact ⟨k + 1, a * 10 + (z - 48), by omega, by omega, by go_num, rfl, by omega, by omega, W⟩
          case measure => simp [intOf]; omega
      · have W : Hid (pend l = (0, false)) := acc_bad hkl.out HZ.out hd hA.out HP.out
        by_cases hd1 : z < 48
        · clear hd
          go_wp2
          go_ret2
          exact ⟨ret_two (a := 0) (b := false) (by rw [W.out]) (by rw [W.out]), rfl⟩
        · have hd2 : 57 < z := by omega
          clear hd
          go_wp2
          go_ret2
          exact ⟨ret_two (a := 0) (b := false) (by rw [W.out]) (by rw [W.out]), rfl⟩
    · have hkl : Hid (¬ k < l.length) := by rw [HR.out.2]; exact hlt
      by_cases hm : 9223372036854775808 < a
      · have W : Hid (pend l = (-9223372036854775808, false)) := end_min hkl.out hA.out HP.out hm
        go_wp2
        go_ret2
        exact ⟨ret_two (a := -9223372036854775808) (b := false) (by rw [W.out]) (by rw [W.out]), rfl⟩
      · have W : Hid (pend l = (-a, true)) := end_neg hkl.out hA.out HP.out hm
        by_cases he : a = 9223372036854775808
        · subst he
          go_wp2
          go_ret2
          exact ⟨ret_two (a := wrap64 (-wrap64 9223372036854775808)) (b := true) (by rw [W.out]; kernel_rfl) (by rw [W.out]), rfl⟩
        · have hm2 : a ≤ 9223372036854775807 := by omega
          go_wp2
          go_ret2
          exact ⟨ret_two (a := -a) (b := true) (by rw [W.out]) (by rw [W.out]), rfl⟩

set_option maxHeartbeats 4000000 in
set_option maxRecDepth 100000 in
theorem sd_none (v : Option Addr) (c : Nat) (w : World) :
    Calls Tryd.prog 22 #[.slice v 0 c] w fun e w' => e = .returned (.tuple #[.int .i64 0, .bool false]) ∧ w' = w := by
  go_enter Tryd.func22, Tryd.ntmps22
  go_wp2
  go_ret2
  exact ⟨rfl, rfl⟩

set_option maxHeartbeats 4000000 in
set_option maxRecDepth 100000 in
theorem sd_bare (b off c : Nat) (z0 : Int) (w : World) (hc0 : w.cell? ⟨b, off, none⟩ = some (.int .u8 z0)) (hs : z0 = 43 ∨ z0 = 45) :
    Calls Tryd.prog 22 #[.slice (some ⟨b, off, none⟩) 1 c] w fun e w' => e = .returned (.tuple #[.int .i64 0, .bool false]) ∧ w' = w := by
  rcases hs with hs | hs
  · go_enter Tryd.func22, Tryd.ntmps22
    go_wp2
    go_ret2
    exact ⟨rfl, rfl⟩
  · go_enter Tryd.func22, Tryd.ntmps22
    go_wp2
    go_ret2
    exact ⟨rfl, rfl⟩

/-- 'zzSignedDecimalModel' of any row of bytes ends as Atoi of it ends. -/
theorem sd_any (b off n c : Nat) (l : List UInt8) (w : World) (hr : ByteRow w b off l) (hn : l.length = n) (hl : n ≤ 1048576) :
    Calls Tryd.prog 22 #[.slice (some ⟨b, off, none⟩) n c] w fun e w' => e = .returned (.tuple #[.int .i64 (pend l).1, .bool (pend l).2]) ∧ w' = w := by
  by_cases h0 : n = 0
  · subst h0
    have e : l = [] := List.eq_nil_of_length_eq_zero hn
    rw [e]
    exact sd_none (some ⟨b, off, none⟩) c w
  · obtain ⟨z0, hz⟩ : ∃ z0 : Int, z0 = ((l.getD 0 0).toNat : Int) := ⟨_, rfl⟩
    have hc0 : w.cell? ⟨b, off, none⟩ = some (.int .u8 z0) := by have := hr 0 (by omega); rw [Nat.add_zero] at this; rw [this, hz]
    by_cases hs : z0 = 43 ∨ z0 = 45
    · by_cases h1 : n = 1
      · subst h1
        rw [pend_bare hn hz hs]
        exact sd_bare b off c z0 w hc0 hs
      · rcases hs with hs | hs
        · exact sd_plus b off n c l w hr hn (by omega) hl z0 hz hs
        · exact sd_minus b off n c l w hr hn (by omega) hl z0 hz hs
    · exact sd_plain b off n c l w hr hn (by omega) hl z0 hz (by simp; omega) (by simp; omega)
end Go.Proofs.Qxb6602414aDoor
