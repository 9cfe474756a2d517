/-
  Seat b6602355a. The contracts of 'quotedLen', 'hasByte' and the two 'zzBytes_..'.
-/
import Derived.Test.Qxb6602355aPlain
import Derived.Test.Qxb6602355aProg
import Derived.WalkKit
import Derived.WalkSpells
namespace Go.Proofs.Qxb6602355a
open Go.RowKit

theorem drop_cons (s : ByteArray) (k : Nat) (h : k < s.size) : s.data.toList.drop k = s[k] :: s.data.toList.drop (k + 1) := by
  rw [List.drop_eq_getElem_cons (by simpa using h)]; rfl

theorem drop_end (s : ByteArray) (k : Nat) (h : ¬ k < s.size) : s.data.toList.drop k = [] := by
  rw [List.drop_eq_nil_iff]
  show s.data.toList.length ≤ k
  have : s.data.toList.length = s.size := by show s.data.toList.length = s.data.size; simp
  omega

theorem byte_eq {c n : UInt8} (h : c.toNat = n.toNat) : c = n := UInt8.toNat_inj.1 h

/-- What the scan behind the opening quote has come to at k. -/
def ScanAt (s : ByteArray) (k : Nat) : Prop := scanQ (s.data.toList.drop 1) = (scanQ (s.data.toList.drop k)).map (· + (k - 1))

theorem scan_start (s : ByteArray) : ScanAt s 1 := by
  unfold ScanAt
  cases scanQ (s.data.toList.drop 1) <;> rfl

theorem map_two (o : Option Nat) (a b c : Nat) (h : a + b = c) : (o.map (· + a)).map (· + b) = o.map (· + c) := by
  cases o with
  | none => rfl
  | some x => simp; omega

theorem scan_back (s : ByteArray) (k : Nat) (h : k < s.size) (h1 : 1 ≤ k) (hc : s[k].toNat = 92) (hs : ScanAt s k) : ScanAt s (k + 2) := by
  unfold ScanAt at hs ⊢
  rw [hs, drop_cons s k h]
  have hb : s[k] = 92 := byte_eq hc
  by_cases h2 : k + 1 < s.size
  · rw [drop_cons s (k + 1) h2, scanQ_back _ _ _ hb, map_two _ _ _ (k + 2 - 1) (by omega)]
  · rw [drop_end s (k + 1) h2, drop_end s (k + 2) (by omega), scanQ_back1 _ hb]; rfl

theorem scan_other (s : ByteArray) (k : Nat) (h : k < s.size) (h1 : 1 ≤ k) (hc : ¬ s[k].toNat = 92) (hc' : ¬ s[k].toNat = 34) (hs : ScanAt s k) : ScanAt s (k + 1) := by
  unfold ScanAt at hs ⊢
  rw [hs, drop_cons s k h, scanQ_other _ _ (fun e => hc (by rw [e]; rfl)) (fun e => hc' (by rw [e]; rfl)), map_two _ _ _ (k + 1 - 1) (by omega)]

theorem scan_quote (s : ByteArray) (k : Nat) (h : k < s.size) (h1 : 1 ≤ k) (h0 : s[0].toNat = 34) (hc : s[k].toNat = 34) (hs : ScanAt s k) : qlen s.data.toList = k + 1 := by
  unfold ScanAt at hs
  have e := drop_cons s 0 (by omega)
  rw [List.drop_zero] at e
  rw [e, qlen_cons, if_pos (byte_eq h0), hs, drop_cons s k h, scanQ_quote _ _ (byte_eq hc)]
  show 1 + (k - 1) + 1 = k + 1
  omega

theorem scan_end (s : ByteArray) (k : Nat) (h : ¬ k < s.size) (hp : 0 < s.size) (h0 : s[0].toNat = 34) (hs : ScanAt s k) : qlen s.data.toList = 1 := by
  unfold ScanAt at hs
  have e := drop_cons s 0 (by omega)
  rw [List.drop_zero] at e
  rw [e, qlen_cons, if_pos (byte_eq h0), hs, drop_end s k h]
  rfl

theorem scan_not (s : ByteArray) (hp : 0 < s.size) (h0 : ¬ s[0].toNat = 34) : qlen s.data.toList = 1 := by
  have e := drop_cons s 0 (by omega)
  rw [List.drop_zero] at e
  rw [e, qlen_other _ _ (fun e => h0 (by rw [e]; rfl))]

theorem ret_int {k : IntKind} {a b : Int} (h : a = b) : Ending.returned (.int k a) = .returned (.int k b) := by rw [h]

set_option maxHeartbeats 1000000 in
theorem quotedLen_any (s : ByteArray) (w : World) (hp : 0 < s.size) (hs : s.size ≤ 1048576) :
    Calls Try.prog 28 #[.string s] w fun e w' => e = .returned (.int .i64 (qlen s.data.toList)) ∧ w' = w := by
  by_cases h0 : s[0].toNat = 34
  · have h0' : (s[0].toNat : Int) = 34 := by omega
    have H0 : Hid (s[0].toNat = 34) := h0
    clear h0
    go_enter Try.func28, Try.ntmps28
    go_wp2
    go_loop [3] (fun i => ∃ k : Nat, 1 ≤ k ∧ k ≤ s.size + 1 ∧ i = .int .i64 k ∧ Hid (ScanAt s k)) (fun i => s.size + 1 - (intOf i).toNat)
    case atStart => exact ⟨1, Nat.le_refl _, by omega, rfl, scan_start s⟩
    case round =>
      obtain ⟨k, hk1, hk2, rfl, hsc⟩ := hrel
      by_cases hlt : k < s.size
      · go_wp2
        · have h1 : ((s[k].toNat : Int) == 92) = true := by assumption
          go_round
          case rel => exact ⟨k + 2, by omega, by omega, by go_num, scan_back s k hlt hk1 (by have := eq_of_beq h1; omega) hsc.out⟩
          case measure => simp [intOf]; omega
        · go_ret
          have h1 : ((s[k].toNat : Int) == 34) = true := by assumption
          exact ⟨ret_int (by rw [scan_quote s k hlt hk1 H0.out (by have := eq_of_beq h1; omega) hsc.out]; rfl), rfl⟩
        · have h1 : ((s[k].toNat : Int) == 92) = false := by assumption
          have h2 : ((s[k].toNat : Int) == 34) = false := by assumption
          go_round
          case rel => exact ⟨k + 1, by omega, by omega, by go_num, scan_other s k hlt hk1 (fun e => by rw [e] at h1; cases h1) (fun e => by rw [e] at h2; cases h2) hsc.out⟩
          case measure => simp [intOf]; omega
      · go_wp2
        go_ret
        exact ⟨ret_int (by rw [scan_end s k hlt hp H0.out hsc.out]; rfl), rfl⟩
  · have h0' : ¬ (s[0].toNat : Int) = 34 := by omega
    have H0 : Hid (¬ s[0].toNat = 34) := h0
    clear h0
    go_enter Try.func28, Try.ntmps28
    go_wp2
    go_ret
    exact ⟨ret_int (by rw [scan_not s hp H0.out]; rfl), rfl⟩

/-- Some bool, the world as it was; and where it is false no byte is c. -/
def NoByte (s : ByteArray) (c : UInt8) (w : World) (e : Ending) (w' : World) : Prop := ∃ b, e = .returned (.bool b) ∧ w' = w ∧ (b = false → ∀ x ∈ s.data.toList, x ≠ c)

theorem no_step (s : ByteArray) (c : UInt8) (k : Nat) (h : k < s.size) (hc : ((s[k].toNat : Int) == (c.toNat : Int)) = false) (hs : ∀ x ∈ s.data.toList.take k, x ≠ c) : ∀ x ∈ s.data.toList.take (k + 1), x ≠ c := by
  intro x hx
  rw [List.take_succ_eq_append_getElem (by simpa using h)] at hx
  rcases List.mem_append.1 hx with hx | hx
  · exact hs x hx
  · have e : x = s[k] := List.mem_singleton.1 hx
    intro hxc
    rw [e] at hxc
    rw [hxc] at hc
    simp at hc

set_option maxHeartbeats 1000000 in
theorem hasByte_any (s : ByteArray) (c : UInt8) (w : World) (hs : s.size ≤ 1048576) :
    Calls Try.prog 25 #[.string s, .int .u8 c.toNat] w fun e w' => NoByte s c w e w' := by
  go_enter Try.func25, Try.ntmps25
  go_wp2
  go_loop [5] (fun i => ∃ k : Nat, k ≤ s.size ∧ i = .int .i64 k ∧ Hid (∀ x ∈ s.data.toList.take k, x ≠ c)) (fun i => s.size - (intOf i).toNat)
  case atStart => exact ⟨0, Nat.zero_le _, rfl, fun x hx => by simp at hx⟩
  case round =>
    obtain ⟨k, hk, rfl, hno⟩ := hrel
    by_cases hlt : k < s.size
    · go_wp2
      · go_ret
        exact ⟨true, rfl, rfl, fun h => by cases h⟩
      · have h1 : ((s[k].toNat : Int) == (c.toNat : Int)) = false := by assumption
        go_round
        case rel => exact ⟨k + 1, by omega, by go_num, no_step s c k hlt h1 hno.out⟩
        case measure => simp [intOf]; omega
    · go_wp2
      go_ret
      refine ⟨false, rfl, rfl, fun _ x hx => hno.out x ?_⟩
      rw [List.take_of_length_le]
      · exact hx
      · have : s.data.toList.length = s.size := by show s.data.toList.length = s.data.size; simp
        omega

def SomeBool (w : World) (e : Ending) (w' : World) : Prop := ∃ b, e = .returned (.bool b) ∧ w' = w
theorem someBool (w : World) (b : Bool) : SomeBool w (.returned (.bool b)) w := ⟨b, rfl, rfl⟩

theorem bytes24 (s : ByteArray) (w : World) (hs : s.size ≤ maxLen) : Calls Try.prog 24 #[.string s] w fun e w' => SomeBool w e w' := by
  unfold maxLen at hs
  go_enter Try.func24, Try.ntmps24
  go_wp2
  all_goals (go_ret; exact someBool _ _)

theorem bytes21 (s : ByteArray) (w : World) (hs : s.size ≤ maxLen) : Calls Try.prog 21 #[.string s] w fun e w' => SomeBool w e w' := by
  unfold maxLen at hs
  go_enter Try.func21, Try.ntmps21
  go_wp2
  all_goals (go_ret; exact someBool _ _)

theorem bytes27 (s t : ByteArray) (w : World) (hs : s.size ≤ maxLen) (ht : t.size ≤ maxLen) : Calls Try.prog 27 #[.string s, .string t] w fun e w' => SomeBool w e w' := by
  unfold maxLen at hs ht
  go_enter Try.func27, Try.ntmps27
  go_wp2
  all_goals (go_ret; exact someBool _ _)
end Go.Proofs.Qxb6602355a
