/-
  Seat b6602355a. The contract of 'utf8Width': it is the width that the model's own decoder gives.
-/
import Derived.Test.Qxb6602355aPlainC
import Derived.Test.Qxb6602355aProg
import Derived.WalkKit
import Derived.WalkSpells
namespace Go.Proofs.Qxb6602355a
open Go.RowKit

theorem get_nat (s : ByteArray) (i : Nat) (h : i < s.size) : (s.get! i).toNat = (s[i]'h).toNat := by
  have : s.get! i = s[i]'h := by
    simp [ByteArray.get!, getElem!_pos, h]
    rfl
  rw [this]

def ContTo (s : ByteArray) (p k : Nat) : Prop := ∀ j, 2 ≤ j → j < k → 128 ≤ (s.get! (p + j)).toNat ∧ (s.get! (p + j)).toNat ≤ 191

theorem cont_start (s : ByteArray) (p : Nat) : ContTo s p 2 := fun j h h' => by omega
theorem cont_step (s : ByteArray) (p k : Nat) (h : p + k < s.size) (h1 : ¬ ((s[p + k]).toNat : Int) < 128) (h2 : ¬ (191 : Int) < ((s[p + k]).toNat : Int)) (hc : ContTo s p k) : ContTo s p (k + 1) := fun j hj hj' => by
  by_cases e : j = k
  · subst e; rw [get_nat s (p + j) h]; omega
  · exact hc j hj (by omega)

theorem w_one (s : ByteArray) (p : Nat) (hp : p < s.size) (h : s[p].toNat < 194 ∨ 245 ≤ s[p].toNat) : (Utf8.decode s p).2 = 1 := by
  rw [dw_decode]
  exact dw_one _ _ _ _ _ _ (s.get! (p + 0)).toNat_lt (by rw [Nat.add_zero, get_nat s p hp]; exact h)

theorem w2_yes (s : ByteArray) (p : Nat) (hp : p < s.size) (h : 194 ≤ s[p].toNat ∧ s[p].toNat ≤ 223) (hn : p + 2 ≤ s.size) (h1 : 128 ≤ (s[p + 1]).toNat ∧ (s[p + 1]).toNat ≤ 191) : (Utf8.decode s p).2 = 2 := by
  rw [dw_decode]
  exact dw_two_yes _ _ _ _ _ _ (by rw [Nat.add_zero, get_nat s p hp]; exact h) hn (by rw [get_nat s (p + 1) (by omega)]; exact h1)
theorem w2_short (s : ByteArray) (p : Nat) (hp : p < s.size) (h : 194 ≤ s[p].toNat ∧ s[p].toNat ≤ 223) (hn : ¬ p + 2 ≤ s.size) : (Utf8.decode s p).2 = 1 := by
  rw [dw_decode]
  exact dw_two_no _ _ _ _ _ _ (by rw [Nat.add_zero, get_nat s p hp]; exact h) (by omega)
theorem w2_snd (s : ByteArray) (p : Nat) (hp : p < s.size) (h : 194 ≤ s[p].toNat ∧ s[p].toNat ≤ 223) (hn : p + 2 ≤ s.size) (h1 : (s[p + 1]).toNat < 128 ∨ 191 < (s[p + 1]).toNat) : (Utf8.decode s p).2 = 1 := by
  rw [dw_decode]
  exact dw_two_no _ _ _ _ _ _ (by rw [Nat.add_zero, get_nat s p hp]; exact h) (by rw [get_nat s (p + 1) (by omega)]; omega)

theorem w3_yes (s : ByteArray) (p lo hi : Nat) (hp : p < s.size) (h : C3 s[p].toNat lo hi) (hn : p + 3 ≤ s.size) (h1 : lo ≤ (s[p + 1]).toNat ∧ (s[p + 1]).toNat ≤ hi) (hc : ContTo s p 3) : (Utf8.decode s p).2 = 3 := by
  rw [dw_decode]
  exact dw_three_yes _ _ _ _ _ _ lo hi (by rw [Nat.add_zero, get_nat s p hp]; exact h) hn (by rw [get_nat s (p + 1) (by omega)]; exact h1) (hc 2 (by omega) (by omega))
theorem w3_short (s : ByteArray) (p lo hi : Nat) (hp : p < s.size) (h : C3 s[p].toNat lo hi) (hn : ¬ p + 3 ≤ s.size) : (Utf8.decode s p).2 = 1 := by
  rw [dw_decode]
  exact dw_three_no _ _ _ _ _ _ lo hi (by rw [Nat.add_zero, get_nat s p hp]; exact h) (by omega)
theorem w3_snd (s : ByteArray) (p lo hi : Nat) (hp : p < s.size) (h : C3 s[p].toNat lo hi) (hn : p + 3 ≤ s.size) (h1 : (s[p + 1]).toNat < lo ∨ hi < (s[p + 1]).toNat) : (Utf8.decode s p).2 = 1 := by
  rw [dw_decode]
  exact dw_three_no _ _ _ _ _ _ lo hi (by rw [Nat.add_zero, get_nat s p hp]; exact h) (by rw [get_nat s (p + 1) (by omega)]; omega)
theorem w3_rest (s : ByteArray) (p lo hi k : Nat) (hp : p < s.size) (h : C3 s[p].toNat lo hi) (hn : p + k < s.size) (h2 : 2 ≤ k) (h3 : k < 3) (h1 : ((s[p + k]).toNat : Int) < 128 ∨ (191 : Int) < ((s[p + k]).toNat : Int)) : (Utf8.decode s p).2 = 1 := by
  obtain rfl : k = 2 := by omega
  rw [dw_decode]
  exact dw_three_no _ _ _ _ _ _ lo hi (by rw [Nat.add_zero, get_nat s p hp]; exact h) (by rw [get_nat s (p + 2) (by omega)]; omega)

theorem w4_yes (s : ByteArray) (p lo hi : Nat) (hp : p < s.size) (h : C4 s[p].toNat lo hi) (hn : p + 4 ≤ s.size) (h1 : lo ≤ (s[p + 1]).toNat ∧ (s[p + 1]).toNat ≤ hi) (hc : ContTo s p 4) : (Utf8.decode s p).2 = 4 := by
  rw [dw_decode]
  exact dw_four_yes _ _ _ _ _ _ lo hi (by rw [Nat.add_zero, get_nat s p hp]; exact h) hn (by rw [get_nat s (p + 1) (by omega)]; exact h1) (hc 2 (by omega) (by omega)) (hc 3 (by omega) (by omega))
theorem w4_short (s : ByteArray) (p lo hi : Nat) (hp : p < s.size) (h : C4 s[p].toNat lo hi) (hn : ¬ p + 4 ≤ s.size) : (Utf8.decode s p).2 = 1 := by
  rw [dw_decode]
  exact dw_four_no _ _ _ _ _ _ lo hi (by rw [Nat.add_zero, get_nat s p hp]; exact h) (by omega)
theorem w4_snd (s : ByteArray) (p lo hi : Nat) (hp : p < s.size) (h : C4 s[p].toNat lo hi) (hn : p + 4 ≤ s.size) (h1 : (s[p + 1]).toNat < lo ∨ hi < (s[p + 1]).toNat) : (Utf8.decode s p).2 = 1 := by
  rw [dw_decode]
  exact dw_four_no _ _ _ _ _ _ lo hi (by rw [Nat.add_zero, get_nat s p hp]; exact h) (by rw [get_nat s (p + 1) (by omega)]; omega)
theorem w4_rest (s : ByteArray) (p lo hi k : Nat) (hp : p < s.size) (h : C4 s[p].toNat lo hi) (hn : p + k < s.size) (h2 : 2 ≤ k) (h3 : k < 4) (h1 : ((s[p + k]).toNat : Int) < 128 ∨ (191 : Int) < ((s[p + k]).toNat : Int)) : (Utf8.decode s p).2 = 1 := by
  rw [dw_decode]
  have e : k = 2 ∨ k = 3 := by omega
  rcases e with rfl | rfl
  · exact dw_four_no _ _ _ _ _ _ lo hi (by rw [Nat.add_zero, get_nat s p hp]; exact h) (by rw [get_nat s (p + 2) (by omega)]; omega)
  · exact dw_four_no _ _ _ _ _ _ lo hi (by rw [Nat.add_zero, get_nat s p hp]; exact h) (by rw [get_nat s (p + 3) (by omega)]; omega)

theorem ret_w {a b : Nat} (h : b = a) : Ending.returned (.int .i64 ((a : Nat) : Int)) = .returned (.int .i64 ((b : Nat) : Int)) := by rw [h]

set_option maxHeartbeats 2000000 in
set_option maxRecDepth 100000 in
theorem width_a (s : ByteArray) (p : Nat) (w : World) (hp : p < s.size) (_hs : s.size ≤ 1048576) (hc : (s[p].toNat : Int) < 128) :
    Calls Try.prog 41 #[.string s, .int .i64 p] w fun e w' => e = .returned (.int .i64 (((Utf8.decode s p).2 : Nat) : Int)) ∧ w' = w := by
  have W : Hid ((Utf8.decode s p).2 = 1) := w_one s p hp (by omega)
  go_enter Try.func41, Try.ntmps41
  go_wp2
  all_goals (go_ret; exact ⟨ret_w (a := 1) (W.out), rfl⟩)

set_option maxHeartbeats 2000000 in
set_option maxRecDepth 100000 in
theorem width_lo (s : ByteArray) (p : Nat) (w : World) (hp : p < s.size) (_hs : s.size ≤ 1048576) (h1 : ¬ (s[p].toNat : Int) < 128) (h2 : (s[p].toNat : Int) < 194) :
    Calls Try.prog 41 #[.string s, .int .i64 p] w fun e w' => e = .returned (.int .i64 (((Utf8.decode s p).2 : Nat) : Int)) ∧ w' = w := by
  have W : Hid ((Utf8.decode s p).2 = 1) := w_one s p hp (by omega)
  go_enter Try.func41, Try.ntmps41
  go_wp2
  all_goals (go_ret; exact ⟨ret_w (a := 1) (W.out), rfl⟩)

set_option maxHeartbeats 2000000 in
set_option maxRecDepth 100000 in
theorem width_hi (s : ByteArray) (p : Nat) (w : World) (hp : p < s.size) (_hs : s.size ≤ 1048576) (h1 : 245 ≤ (s[p].toNat : Int)) :
    Calls Try.prog 41 #[.string s, .int .i64 p] w fun e w' => e = .returned (.int .i64 (((Utf8.decode s p).2 : Nat) : Int)) ∧ w' = w := by
  have W : Hid ((Utf8.decode s p).2 = 1) := w_one s p hp (by omega)
  go_enter Try.func41, Try.ntmps41
  go_wp2
  all_goals (go_ret; exact ⟨ret_w (a := 1) (W.out), rfl⟩)

set_option maxHeartbeats 2000000 in
set_option maxRecDepth 100000 in
theorem width_2 (s : ByteArray) (p : Nat) (w : World) (hp : p < s.size) (hs : s.size ≤ 1048576) (h1 : 194 ≤ (s[p].toNat : Int)) (h2 : (s[p].toNat : Int) ≤ 223) :
    Calls Try.prog 41 #[.string s, .int .i64 p] w fun e w' => e = .returned (.int .i64 (((Utf8.decode s p).2 : Nat) : Int)) ∧ w' = w := by
  have hcl : Hid (194 ≤ s[p].toNat ∧ s[p].toNat ≤ 223) := ⟨by omega, by omega⟩
  by_cases hn : p + 2 ≤ s.size
  · have hn' : (p : Int) + 2 ≤ (s.size : Int) := by omega
    have i1 : p + 1 < s.size := by omega
    by_cases hlo : ((s[p + 1]).toNat : Int) < 128
    · have W : Hid ((Utf8.decode s p).2 = 1) := w2_snd s p hp hcl.out hn (by omega)
      go_enter Try.func41, Try.ntmps41
      go_wp2
      go_ret
      exact ⟨ret_w (a := 1) W.out, rfl⟩
    · by_cases hhi : (191 : Int) < ((s[p + 1]).toNat : Int)
      · have W : Hid ((Utf8.decode s p).2 = 1) := w2_snd s p hp hcl.out hn (by omega)
        go_enter Try.func41, Try.ntmps41
        go_wp2
        go_ret
        exact ⟨ret_w (a := 1) W.out, rfl⟩
      · have W : Hid ((Utf8.decode s p).2 = 2) := w2_yes s p hp hcl.out hn (by omega)
        go_enter Try.func41, Try.ntmps41
        go_wp2
        refine wp_loop_rounds 1 ?_
        rw [rounds_succ]
        go_wp2
        go_ret
        exact ⟨ret_w (a := 2) W.out, rfl⟩
  · have hn' : ¬ (p : Int) + 2 ≤ (s.size : Int) := by omega
    have W : Hid ((Utf8.decode s p).2 = 1) := w2_short s p hp hcl.out hn
    go_enter Try.func41, Try.ntmps41
    go_wp2
    go_ret
    exact ⟨ret_w (a := 1) W.out, rfl⟩
end Go.Proofs.Qxb6602355a
