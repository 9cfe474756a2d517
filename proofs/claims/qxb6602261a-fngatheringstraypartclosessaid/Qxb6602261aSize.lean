/-
  Seat b6602261a. The contracts of 'zzb1Size' and 'zzb1SizeParts': they only read; what they answer is bounded, and an answer within the bound tells that the slice is short.
-/
import Derived.Test.Qxb6602261aProg
import Derived.WalkKit
import Derived.WalkSpells
namespace Go.Proofs.Qxb6602261a
open Go.RowKit

/-- A slice of strings of n elements, as the walks read it. -/
def StrsAt (w : World) (a : Option Addr) (n : Nat) (S : Nat → ByteArray) : Prop :=
  ∀ i, i < n → ∃ b off, a = some ⟨b, off, none⟩ ∧ w.cell? ⟨b, off + i, none⟩ = some (.string (S i)) ∧ (S i).size ≤ maxLen

set_option maxHeartbeats 400000 in
theorem size_any (a : Option Addr) (n c : Nat) (S : Nat → ByteArray) (w : World) (hS : StrsAt w a n S) (hn : n ≤ maxLen) :
    Calls Try.prog 19 #[.slice a n c] w fun e w' => ∃ m : Int, e = .returned (.int .i64 m) ∧ w' = w ∧ 0 ≤ m ∧ m ≤ 4194304 ∧ (m ≤ 1048576 → n ≤ 65536) := by
  unfold maxLen at hn
  by_cases hbig : 65536 < n
  · have hb' : (65536 : Int) < (n : Int) := by omega
    go_enter Try.func19, Try.ntmps19
    go_wp2
    go_ret
    exact ⟨_, rfl, rfl, by omega, by omega, by omega⟩
  have hb' : ¬ (65536 : Int) < (n : Int) := by omega
  go_enter Try.func19, Try.ntmps19
  go_wp2
  go_loop [3, 4] (fun z i => ∃ (k : Nat) (q : Int), k ≤ n ∧ i = .int .i64 k ∧ z = .int .i64 q ∧ 0 ≤ q ∧ q ≤ 1048576) (fun _ i => n - (intOf i).toNat)
  case atStart => exact ⟨0, _, Nat.zero_le _, rfl, rfl, by omega, by omega⟩
  case round =>
    obtain ⟨k, q, hk, rfl, rfl, hq0, hq1⟩ := hrel
    by_cases hlt : k < n
    · obtain ⟨b, off, rfl, hc, hs⟩ := hS k hlt
      unfold maxLen at hs
      go_wp2
      · go_ret
        exact ⟨_, rfl, rfl, by omega, by omega, by omega⟩
      · go_ret
        exact ⟨_, rfl, rfl, by omega, by omega, by omega⟩
      · go_round
        case rel => exact ⟨k + 1, _, by omega, by go_num, rfl, by omega, by omega⟩
        case measure => simp [intOf]; omega
    · go_wp2
      go_ret
      exact ⟨_, rfl, rfl, by omega, by omega, by omega⟩

/-- A slice of slices of strings of n elements: element i is the slice '(A i, L i, C i)' of strings 'S i'. -/
def PartsAt (w : World) (a : Option Addr) (n : Nat) (A : Nat → Option Addr) (L C : Nat → Nat) (S : Nat → Nat → ByteArray) : Prop :=
  ∀ i, i < n → ∃ b off, a = some ⟨b, off, none⟩ ∧ w.cell? ⟨b, off + i, none⟩ = some (.slice (A i) (L i) (C i)) ∧ L i ≤ maxLen ∧ StrsAt w (A i) (L i) (S i)

set_option maxHeartbeats 400000 in
theorem sizeParts_any (a : Option Addr) (n c : Nat) (A : Nat → Option Addr) (L C : Nat → Nat) (S : Nat → Nat → ByteArray) (w : World) (hS : PartsAt w a n A L C S) (hn : n ≤ maxLen) :
    Calls Try.prog 34 #[.slice a n c] w fun e w' => ∃ m : Int, e = .returned (.int .i64 m) ∧ w' = w ∧ 0 ≤ m ∧ m ≤ 8388608 ∧ (m ≤ 1048576 → n ≤ 65536 ∧ ∀ i, i < n → L i ≤ 65536) := by
  unfold maxLen at hn
  by_cases hbig : 65536 < n
  · have hb' : (65536 : Int) < (n : Int) := by omega
    go_enter Try.func34, Try.ntmps34
    go_wp2
    go_ret
    exact ⟨_, rfl, rfl, by omega, by omega, by omega⟩
  have hb' : ¬ (65536 : Int) < (n : Int) := by omega
  by_cases hbig2 : 1048576 < 24 * n
  · have hb2 : (1048576 : Int) < 24 * (n : Int) := by omega
    go_enter Try.func34, Try.ntmps34
    go_wp2
    go_ret
    exact ⟨_, rfl, rfl, by omega, by omega, by omega⟩
  have hb2 : ¬ (1048576 : Int) < 24 * (n : Int) := by omega
  go_enter Try.func34, Try.ntmps34
  go_wp2
  go_loop [3, 4] (fun z i => ∃ (k : Nat) (q : Int), k ≤ n ∧ i = .int .i64 k ∧ z = .int .i64 q ∧ 0 ≤ q ∧ q ≤ 1048576 ∧ ∀ i, i < k → L i ≤ 65536) (fun _ i => n - (intOf i).toNat)
  case atStart => exact ⟨0, _, Nat.zero_le _, rfl, rfl, by omega, by omega, fun i hi => by omega⟩
  case round =>
    obtain ⟨k, q, hk, rfl, rfl, hq0, hq1, hL⟩ := hrel
    by_cases hlt : k < n
    · obtain ⟨b, off, rfl, hc, hs, hst⟩ := hS k hlt
      have HS : Hid (StrsAt w (A k) (L k) (S k)) := hst
      have HL : Hid (∀ i, i < k → L i ≤ 65536) := hL
      clear hst hL
      go_wp2_with (go_at_call 19; refine (size_any _ _ _ _ _ HS.out hs).mono ?_; rintro e w' ⟨m, rfl, rfl, hm0, hm1, hm2⟩)
      · go_ret
        exact ⟨_, rfl, rfl, by omega, by omega, by omega⟩
      · go_round
        case rel => exact ⟨k + 1, _, by omega, by go_num, rfl, by omega, by omega, fun i hi => by
          by_cases e : i = k
          · subst e; exact hm2 (by omega)
          · exact HL.out i (by omega)⟩
        case measure => simp [intOf]; omega
    · have HL : Hid (∀ i, i < k → L i ≤ 65536) := hL
      clear hL
      go_wp2
      go_ret
      exact ⟨_, rfl, rfl, by omega, by omega, fun _ => ⟨by omega, fun i hi => HL.out i (by omega)⟩⟩
end Go.Proofs.Qxb6602261a
