/-
  Seat b6602261a. The contract of 'zzBytes_FnGatheringStrayPartCloses': it only reads, and answers some bool.
-/
import Derived.Test.Qxb6602261aSize
namespace Go.Proofs.Qxb6602261a
open Go.RowKit

/-- Some bool is handed back and the world is as it was. -/
def SomeBool (w : World) (e : Ending) (w' : World) : Prop := ∃ b, e = .returned (.bool b) ∧ w' = w
theorem someBool (w : World) (b : Bool) : SomeBool w (.returned (.bool b)) w := ⟨b, rfl, rfl⟩

set_option maxRecDepth 100000 in
set_option maxHeartbeats 4000000 in
theorem bytes_any (g g2 : Int) (s : ByteArray) (m2 : Bool) (most : Int)
    (a1 : Option Addr) (n1 c1 : Nat) (S1 : Nat → ByteArray) (a5 : Option Addr) (n5 c5 : Nat) (S5 : Nat → ByteArray)
    (a6 : Option Addr) (n6 c6 : Nat) (a7 : Option Addr) (n7 c7 : Nat) (S7 : Nat → ByteArray)
    (a8 : Option Addr) (n8 c8 : Nat) (a9 : Option Addr) (n9 c9 : Nat) (A : Nat → Option Addr) (L C : Nat → Nat) (S9 : Nat → Nat → ByteArray) (w : World)
    (h1 : StrsAt w a1 n1 S1) (l1 : n1 ≤ maxLen) (ls : s.size ≤ maxLen) (h5 : StrsAt w a5 n5 S5) (l5 : n5 ≤ maxLen) (l6 : n6 ≤ maxLen)
    (h7 : StrsAt w a7 n7 S7) (l7 : n7 ≤ maxLen) (l8 : n8 ≤ maxLen) (h9 : PartsAt w a9 n9 A L C S9) (l9 : n9 ≤ maxLen) :
    Calls Try.prog 36 #[.int .u64 g, .slice a1 n1 c1, .int .u64 g2, .string s, .bool m2, .slice a5 n5 c5, .slice a6 n6 c6, .slice a7 n7 c7, .slice a8 n8 c8, .slice a9 n9 c9, .int .i64 most] w
      fun e w' => SomeBool w e w' := by
  unfold maxLen at l1 ls l5 l6 l7 l8 l9
  have H1 : Hid (StrsAt w a1 n1 S1) := h1
  have H5 : Hid (StrsAt w a5 n5 S5) := h5
  have H7 : Hid (StrsAt w a7 n7 S7) := h7
  have H9 : Hid (PartsAt w a9 n9 A L C S9) := h9
  clear h1 h5 h7 h9
  go_enter Try.func36, Try.ntmps36
  go_wp2
  · go_ret; exact someBool _ _
  go_loop [23, 24] (fun z i => ∃ (k : Nat) (q : Int), k ≤ n1 ∧ i = .int .i64 k ∧ z = .int .i64 q ∧ 0 ≤ q ∧ q ≤ 1048576) (fun _ i => n1 - (intOf i).toNat)
  case atStart => exact ⟨0, _, Nat.zero_le _, rfl, rfl, by omega, by omega⟩
  case round =>
    obtain ⟨k, q, hk, rfl, rfl, hq0, hq1⟩ := hrel
    by_cases hlt : k < n1
    · obtain ⟨b, off, rfl, hc, hs⟩ := H1.out k hlt
      unfold maxLen at hs
      go_wp2
      · go_ret; exact someBool _ _
      · go_ret; exact someBool _ _
      · go_round
        case rel => exact ⟨k + 1, _, by omega, by go_num, rfl, by omega, by omega⟩
        case measure => simp [intOf]; omega
    · go_wp2
      all_goals try (go_ret; exact someBool _ _)
      go_loop [23, 25] (fun z i => ∃ (k : Nat) (q : Int), k ≤ n5 ∧ i = .int .i64 k ∧ z = .int .i64 q ∧ 0 ≤ q ∧ q ≤ 1048576) (fun _ i => n5 - (intOf i).toNat)
      case atStart => exact ⟨0, _, Nat.zero_le _, rfl, rfl, by omega, by omega⟩
      case round =>
        obtain ⟨k, q, hk, rfl, rfl, hq0, hq1⟩ := hrel
        by_cases hlt : k < n5
        · obtain ⟨b, off, rfl, hc, hs⟩ := H5.out k hlt
          unfold maxLen at hs
          go_wp2
          · go_ret; exact someBool _ _
          · go_ret; exact someBool _ _
          · go_round
            case rel => exact ⟨k + 1, _, by omega, by go_num, rfl, by omega, by omega⟩
            case measure => simp [intOf]; omega
        · go_wp2
          all_goals try (go_ret; exact someBool _ _)
          go_loop [23, 26] (fun z i => ∃ (k : Nat) (q : Int), k ≤ n7 ∧ i = .int .i64 k ∧ z = .int .i64 q ∧ 0 ≤ q ∧ q ≤ 1048576) (fun _ i => n7 - (intOf i).toNat)
          case atStart => exact ⟨0, _, Nat.zero_le _, rfl, rfl, by omega, by omega⟩
          case round =>
            obtain ⟨k, q, hk, rfl, rfl, hq0, hq1⟩ := hrel
            by_cases hlt : k < n7
            · obtain ⟨b, off, rfl, hc, hs⟩ := H7.out k hlt
              unfold maxLen at hs
              go_wp2
              · go_ret; exact someBool _ _
              · go_ret; exact someBool _ _
              · go_round
                case rel => exact ⟨k + 1, _, by omega, by go_num, rfl, by omega, by omega⟩
                case measure => simp [intOf]; omega
            · go_wp2
              all_goals try (go_ret; exact someBool _ _)
              go_loop [23, 27, 28] (fun z i _ => ∃ (k : Nat) (q : Int), k ≤ n9 ∧ i = .int .i64 k ∧ z = .int .i64 q ∧ 0 ≤ q ∧ q ≤ 1048576) (fun _ i _ => n9 - (intOf i).toNat)
              case atStart => exact ⟨0, _, Nat.zero_le _, rfl, rfl, by omega, by omega⟩
              case round =>
                obtain ⟨k, q, hk, rfl, rfl, hq0, hq1⟩ := hrel
                by_cases hlt : k < n9
                · obtain ⟨b, off, rfl, hc, hs, hst⟩ := H9.out k hlt
                  unfold maxLen at hs
                  have HS : Hid (StrsAt w (A k) (L k) (S9 k)) := hst
                  clear hst
                  go_wp2
                  all_goals try (go_ret; exact someBool _ _)
                  go_loop [23, 28] (fun z i => ∃ (j : Nat) (q : Int), j ≤ L k ∧ i = .int .i64 j ∧ z = .int .i64 q ∧ 0 ≤ q ∧ q ≤ 1048576) (fun _ i => L k - (intOf i).toNat)
                  case atStart => exact ⟨0, _, Nat.zero_le _, rfl, rfl, by omega, by omega⟩
                  case round =>
                    obtain ⟨j, q, hj, rfl, rfl, hq0, hq1⟩ := hrel
                    by_cases hlj : j < L k
                    · obtain ⟨b', off', hA, hc', hs'⟩ := HS.out j hlj
                      unfold maxLen at hs'
                      rw [hA] at hc
                      go_wp2
                      · go_ret; exact someBool _ _
                      · go_ret; exact someBool _ _
                      · go_round
                        case rel => exact ⟨j + 1, _, by omega, by go_num, rfl, by omega, by omega⟩
                        case measure => simp [intOf]; omega
                    · go_wp2
                      go_round
                      case rel => exact ⟨k + 1, _, by omega, by go_num, rfl, by omega, by omega⟩
                      case measure => simp [intOf]; omega
                · go_wp2
                  go_ret; exact someBool _ _
end Go.Proofs.Qxb6602261a
