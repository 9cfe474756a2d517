/-
  Seat b6602355a. The contracts of 'utf8Width' (every first byte), 'cutAt', 'closingQuoteAfter', 'termEnd'.
-/
import Derived.Test.Qxb6602355aWidth3
import Derived.Test.Qxb6602355aWidth4
import Derived.Test.Qxb6602355aTerms
namespace Go.Proofs.Qxb6602355a
open Go.RowKit

theorem width_any (s : ByteArray) (p : Nat) (w : World) (hp : p < s.size) (hs : s.size ≤ 1048576) :
    Calls Try.prog 41 #[.string s, .int .i64 p] w fun e w' => e = .returned (.int .i64 (((Utf8.decode s p).2 : Nat) : Int)) ∧ w' = w := by
  by_cases a1 : (s[p].toNat : Int) < 128
  · exact width_a s p w hp hs a1
  by_cases a2 : (s[p].toNat : Int) < 194
  · exact width_lo s p w hp hs a1 a2
  by_cases a3 : (s[p].toNat : Int) ≤ 223
  · exact width_2 s p w hp hs (by omega) a3
  by_cases a4 : (s[p].toNat : Int) = 224
  · exact width_224 s p w hp hs a4
  by_cases a5 : (s[p].toNat : Int) = 237
  · exact width_237 s p w hp hs a5
  by_cases a6 : (s[p].toNat : Int) ≤ 239
  · exact width_3 s p w hp hs (by omega) a6 (by simpa using a5) a5
  by_cases a7 : (s[p].toNat : Int) = 240
  · exact width_240 s p w hp hs a7
  by_cases a8 : (s[p].toNat : Int) = 244
  · exact width_244 s p w hp hs a8
  by_cases a9 : (s[p].toNat : Int) ≤ 243
  · exact width_4 s p w hp hs (by omega) a9
  · exact width_hi s p w hp hs (by omega)

theorem dw_le (sz p b0 b1 b2 b3 : Nat) (h : p < sz) : p + dw sz p b0 b1 b2 b3 ≤ sz := by
  unfold dw
  repeat' split
  all_goals omega

theorem decode_in (s : ByteArray) (p : Nat) (h : p < s.size) : p + (Utf8.decode s p).2 ≤ s.size := by
  rw [dw_decode]; exact dw_le _ _ _ _ _ _ h

/-- cutAt at 64. -/
def cutI (s : ByteArray) : Int := match cutF s 64 0 with
  | some p => (p : Int)
  | none => -1

theorem cutI_some {s : ByteArray} {p : Nat} (h : cutF s 64 0 = some p) : cutI s = p := by unfold cutI; rw [h]
theorem cutI_none {s : ByteArray} (h : cutF s 64 0 = none) : cutI s = -1 := by unfold cutI; rw [h]

set_option maxHeartbeats 1000000 in
set_option maxRecDepth 100000 in
theorem cutAt_any (s : ByteArray) (w : World) (hs : s.size ≤ 1048576) :
    Calls Try.prog 38 #[.string s, .int .i64 64] w fun e w' => e = .returned (.int .i64 (cutI s)) ∧ w' = w := by
  go_enter Try.func38, Try.ntmps38
  go_wp2
  go_loop [5, 6] (fun t i => ∃ k pos : Nat, k ≤ 64 ∧ pos ≤ s.size ∧ i = .int .i64 k ∧ t = .int .i64 pos ∧ Hid (cutF s (64 - k) pos = cutF s 64 0)) (fun _ i => 64 - (intOf i).toNat)
  case atStart => exact ⟨0, 0, Nat.zero_le _, Nat.zero_le _, rfl, rfl, rfl⟩
  case round =>
    obtain ⟨k, pos, hk, hpos, rfl, rfl, hcut⟩ := hrel
    by_cases hk64 : k < 64
    · by_cases hp : pos < s.size
      · have hin := decode_in s pos hp
        have HC : Hid (cutF s (64 - (k + 1)) (pos + (Utf8.decode s pos).2) = cutF s 64 0) := cut_step s k pos hk (by omega) hp hcut.out
        clear hcut
        go_wp2_with (go_at_call 41; refine (width_any s pos _ hp hs).mono ?_; rintro e w1 ⟨rfl, rfl⟩)
        go_round
        case rel => exact ⟨k + 1, pos + (Utf8.decode s pos).2, by omega, hin, by go_num, by go_num, HC.out⟩
        case measure => simp [intOf]; omega
      · have W : Hid (cutI s = -1) := cutI_none (by rw [← hcut.out]; exact cut_none s _ pos hp)
        clear hcut
        go_wp2
        go_ret
        exact ⟨ret_int W.out.symm, rfl⟩
    · obtain rfl : k = 64 := by omega
      by_cases hp : pos < s.size
      · have W : Hid (cutI s = pos) := cutI_some (cut_here s pos hp hcut.out)
        clear hcut
        go_wp2
        go_ret
        exact ⟨ret_int W.out.symm, rfl⟩
      · have W : Hid (cutI s = -1) := cutI_none (by rw [← hcut.out]; exact cut_none s _ pos hp)
        clear hcut
        go_wp2
        go_ret
        exact ⟨ret_int W.out.symm, rfl⟩

/-- closingQuoteAfter. -/
def cq (s : ByteArray) (j : Nat) : Int := match scanQ (s.data.toList.drop (j + 1)) with
  | some m => ((j + m : Nat) : Int)
  | none => -1
theorem cq_some {s : ByteArray} {j m : Nat} (h : scanQ (s.data.toList.drop (j + 1)) = some m) : cq s j = ((j + m : Nat) : Int) := by unfold cq; rw [h]
theorem cq_none {s : ByteArray} {j : Nat} (h : scanQ (s.data.toList.drop (j + 1)) = none) : cq s j = -1 := by unfold cq; rw [h]

/-- What the parity scan has come to at k, the run of backslashes being b. -/
def CQ (s : ByteArray) (j b k : Nat) : Prop := scanQ (s.data.toList.drop (j + 1)) = (scanP (decide (b % 2 = 1)) (s.data.toList.drop k)).map (· + (k - (j + 1)))

theorem cq_start (s : ByteArray) (j : Nat) : CQ s j 0 (j + 1) := by
  unfold CQ
  have e : decide (0 % 2 = 1) = false := by decide
  rw [e, scanP_scanQ _ _ (Nat.le_refl _)]
  cases scanQ (s.data.toList.drop (j + 1)) with
  | none => rfl
  | some x => simp

theorem cq_end (s : ByteArray) (j b k : Nat) (h : ¬ k < s.size) (hc : CQ s j b k) : cq s j = -1 := by
  unfold CQ at hc
  rw [drop_end s k h] at hc
  exact cq_none (by rw [hc]; rfl)

theorem cq_hit (s : ByteArray) (j b k : Nat) (hk : j + 1 ≤ k) (h : k < s.size) (h1 : (s[k].toNat : Int) = 34) (hb : b % 2 = 0) (hc : CQ s j b k) : cq s j = (k : Int) := by
  unfold CQ at hc
  have e : decide (b % 2 = 1) = false := by simp; omega
  rw [e, drop_cons s k h, scanP_quote _ _ (byte_eq (n := 34) (by show s[k].toNat = 34; omega))] at hc
  have hc2 : scanQ (s.data.toList.drop (j + 1)) = some (1 + (k - (j + 1))) := hc
  rw [cq_some hc2]
  omega

theorem cq_back (s : ByteArray) (j b k : Nat) (hk : j + 1 ≤ k) (h : k < s.size) (h1 : (s[k].toNat : Int) = 92) (hc : CQ s j b k) : CQ s j (b + 1) (k + 1) := by
  unfold CQ at hc ⊢
  have e : decide ((b + 1) % 2 = 1) = !(decide (b % 2 = 1)) := by
    by_cases hb : b % 2 = 1
    · simp [hb]; omega
    · simp [hb]; omega
  rw [hc, drop_cons s k h, scanP_back _ _ _ (byte_eq (n := 92) (by show s[k].toNat = 92; omega)), e, map_map]
  have e2 : 1 + (k - (j + 1)) = k + 1 - (j + 1) := by omega
  rw [e2]

theorem cq_other (s : ByteArray) (j b k : Nat) (hk : j + 1 ≤ k) (h : k < s.size) (h1 : ¬ (s[k].toNat : Int) = 92) (h2 : ¬ ((s[k].toNat : Int) = 34 ∧ b % 2 = 0)) (hc : CQ s j b k) : CQ s j 0 (k + 1) := by
  unfold CQ at hc ⊢
  have e : decide (0 % 2 = 1) = false := by decide
  rw [hc, drop_cons s k h, scanP_other _ _ _ (fun e => h1 (by rw [e]; rfl)) (fun e => h2 ⟨by rw [e.1]; rfl, by have := e.2; simp at this; omega⟩), e, map_map]
  have e2 : 1 + (k - (j + 1)) = k + 1 - (j + 1) := by omega
  rw [e2]

set_option maxHeartbeats 1000000 in
set_option maxRecDepth 100000 in
theorem closing_any (s : ByteArray) (j : Nat) (w : World) (hj : j < s.size) (hs : s.size ≤ 1048576) :
    Calls Try.prog 29 #[.string s, .int .i64 j] w fun e w' => e = .returned (.int .i64 (cq s j)) ∧ w' = w := by
  go_enter Try.func29, Try.ntmps29
  go_wp2
  go_loop [5, 6] (fun t i => ∃ b k : Nat, j + 1 ≤ k ∧ k ≤ s.size ∧ b ≤ k ∧ t = .int .i64 b ∧ i = .int .i64 k ∧ Hid (CQ s j b k)) (fun _ i => s.size - (intOf i).toNat)
  case atStart => exact ⟨0, j + 1, Nat.le_refl _, by omega, by omega, rfl, by go_num, cq_start s j⟩
  case round =>
    obtain ⟨b, k, hjk, hks, hbk, rfl, rfl, hcq⟩ := hrel
    by_cases hlt : k < s.size
    · by_cases h34 : (s[k].toNat : Int) = 34
      · have h34b : ((s[k].toNat : Int) == 34) = true := by simpa using h34
        by_cases hb : b % 2 = 0
        · have hb' : (b : Int) % 2 = 0 := by omega
          have W : Hid (cq s j = (k : Int)) := cq_hit s j b k hjk hlt h34 hb hcq.out
          clear hcq
          go_wp2
          go_ret
          exact ⟨ret_int W.out.symm, rfl⟩
        · have hb' : ((b : Int) % 2 == 0) = false := by simp; omega
          have hb2 : ¬ (b : Int) % 2 = 0 := by omega
          have W : Hid (CQ s j 0 (k + 1)) := cq_other s j b k hjk hlt (by omega) (fun h => hb h.2) hcq.out
          clear hcq
          go_wp2
          go_round
          case rel => exact ⟨0, k + 1, by omega, by omega, by omega, by go_num, by go_num, W.out⟩
          case measure => simp [intOf]; omega
      · have h34b : ((s[k].toNat : Int) == 34) = false := by simpa using h34
        by_cases h92 : (s[k].toNat : Int) = 92
        · have h92b : ((s[k].toNat : Int) == 92) = true := by simpa using h92
          have W : Hid (CQ s j (b + 1) (k + 1)) := cq_back s j b k hjk hlt h92 hcq.out
          clear hcq
          go_wp2
          go_round
          case rel => exact ⟨b + 1, k + 1, by omega, by omega, by omega, by go_num, by go_num, W.out⟩
          case measure => simp [intOf]; omega
        · have h92b : ((s[k].toNat : Int) == 92) = false := by simpa using h92
          have W : Hid (CQ s j 0 (k + 1)) := cq_other s j b k hjk hlt h92 (fun h => h34 h.1) hcq.out
          clear hcq
          go_wp2
          go_round
          case rel => exact ⟨0, k + 1, by omega, by omega, by omega, by go_num, by go_num, W.out⟩
          case measure => simp [intOf]; omega
    · have W : Hid (cq s j = -1) := cq_end s j b k hlt hcq.out
      clear hcq
      go_wp2
      go_ret
      exact ⟨ret_int W.out.symm, rfl⟩

theorem qlen_some (s : ByteArray) (j m : Nat) (h : j < s.size) (h1 : (s[j].toNat : Int) = 34) (hm : scanQ (s.data.toList.drop (j + 1)) = some m) : qlen (s.data.toList.drop j) = m + 1 := by
  rw [drop_cons s j h, qlen_cons, if_pos (byte_eq (n := 34) (by show s[j].toNat = 34; omega)), hm]; rfl
theorem qlen_none (s : ByteArray) (j : Nat) (h : j < s.size) (h1 : (s[j].toNat : Int) = 34) (hm : scanQ (s.data.toList.drop (j + 1)) = none) : qlen (s.data.toList.drop j) = 1 := by
  rw [drop_cons s j h, qlen_cons, if_pos (byte_eq (n := 34) (by show s[j].toNat = 34; omega)), hm]; rfl
theorem qlen_plain (s : ByteArray) (j : Nat) (h : j < s.size) (h1 : ¬ (s[j].toNat : Int) = 34) : qlen (s.data.toList.drop j) = 1 := by
  rw [drop_cons s j h, qlen_other _ _ (fun e => h1 (by rw [e]; rfl))]

set_option maxHeartbeats 1000000 in
set_option maxRecDepth 100000 in
theorem termEnd_any (s : ByteArray) (i : Nat) (w : World) (hi : i ≤ s.size) (hs : s.size ≤ 1048576) :
    Calls Try.prog 32 #[.string s, .int .i64 i] w fun e w' => e = .returned (.int .i64 ((i + term (s.data.toList.drop i) : Nat) : Int)) ∧ w' = w := by
  go_enter Try.func32, Try.ntmps32
  go_wp2
  go_loop [5, 6] (fun t _ => ∃ j : Nat, i ≤ j ∧ j ≤ s.size ∧ t = .int .i64 j ∧ Hid (EndAt s i j)) (fun t _ => s.size - (intOf t).toNat)
  case atStart => exact ⟨i, Nat.le_refl _, hi, rfl, end_start s i⟩
  case round =>
    obtain ⟨j, hij, hj, rfl, hE⟩ := hrel
    by_cases hjl : j < s.size
    · by_cases h32 : (s[j].toNat : Int) = 32
      · have h32b : ((s[j].toNat : Int) == 32) = true := by simpa using h32
        have W : Hid (i + term (s.data.toList.drop i) = j) := by have h := end_space s i j hjl h32 hE.out; show i + term (s.data.toList.drop i) = j; omega
        clear hE
        go_wp2
        go_ret
        exact ⟨ret_int (by have := W.out; omega), rfl⟩
      · have h32b : ((s[j].toNat : Int) == 32) = false := by simpa using h32
        have HE : Hid (EndAt s i (j + qlen (s.data.toList.drop j))) := end_step s i j hij hjl h32 hE.out
        have hle := end_le s j hjl
        clear hE
        by_cases h34 : (s[j].toNat : Int) = 34
        · have h34b : ((s[j].toNat : Int) == 34) = true := by simpa using h34
          cases hm : scanQ (s.data.toList.drop (j + 1)) with
          | none =>
            have q := qlen_none s j hjl h34 hm
            have HQ : Hid (cq s j = -1) := cq_none hm
            rw [q] at HE hle
            clear hm q
            go_wp2_with (go_at_call 29; refine (closing_any s j _ hjl hs).mono ?_; rw [HQ.out]; rintro e w1 ⟨rfl, rfl⟩)
            go_round
            case rel => exact ⟨j + 1, by omega, hle, by go_num, HE.out⟩
            case measure => simp [intOf]; omega
          | some m =>
            have q := qlen_some s j m hjl h34 hm
            have HQ : Hid (cq s j = ((j + m : Nat) : Int)) := cq_some hm
            rw [q] at HE hle
            clear hm q
            go_wp2_with (go_at_call 29; refine (closing_any s j _ hjl hs).mono ?_; rw [HQ.out]; rintro e w1 ⟨rfl, rfl⟩)
            go_round
            case rel => exact ⟨j + (m + 1), by omega, hle, by go_num, HE.out⟩
            case measure => simp [intOf]; omega
        · have h34b : ((s[j].toNat : Int) == 34) = false := by simpa using h34
          rw [qlen_plain s j hjl h34] at HE hle
          go_wp2
          go_round
          case rel => exact ⟨j + 1, by omega, hle, by go_num, HE.out⟩
          case measure => simp [intOf]; omega
    · have W : Hid (i + term (s.data.toList.drop i) = j) := by have h := end_end s i j hjl hE.out; show i + term (s.data.toList.drop i) = j; omega
      clear hE
      go_wp2
      go_ret
      exact ⟨ret_int (by have := W.out; omega), rfl⟩
end Go.Proofs.Qxb6602355a
