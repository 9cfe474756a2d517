/-
  Seat b6602355a. THE WIDTH OF A RUNE, class by class of its first byte.
-/
import Derived.Test.Qxb6602355aPlainB
namespace Go.Proofs.Qxb6602355a

theorem dw_one (sz p b0 b1 b2 b3 : Nat) (h0 : b0 < 256) (h : b0 < 194 ∨ 245 ≤ b0) : dw sz p b0 b1 b2 b3 = 1 := by
  unfold dw
  repeat' split
  all_goals omega

theorem dw_two_yes (sz p b0 b1 b2 b3 : Nat) (h : 194 ≤ b0 ∧ b0 ≤ 223) (h1 : p + 2 ≤ sz) (h2 : 128 ≤ b1 ∧ b1 ≤ 191) : dw sz p b0 b1 b2 b3 = 2 := by
  unfold dw
  repeat' split
  all_goals omega

theorem dw_two_no (sz p b0 b1 b2 b3 : Nat) (h : 194 ≤ b0 ∧ b0 ≤ 223) (h1 : sz < p + 2 ∨ b1 < 128 ∨ 191 < b1) : dw sz p b0 b1 b2 b3 = 1 := by
  unfold dw
  repeat' split
  all_goals omega

/-- The first byte of three, and the bounds of the second. -/
def C3 (b0 lo hi : Nat) : Prop := (b0 = 224 ∧ lo = 160 ∧ hi = 191) ∨ (b0 = 237 ∧ lo = 128 ∧ hi = 159) ∨ (225 ≤ b0 ∧ b0 ≤ 239 ∧ b0 ≠ 237 ∧ lo = 128 ∧ hi = 191)
/-- The first byte of four, and the bounds of the second. -/
def C4 (b0 lo hi : Nat) : Prop := (b0 = 240 ∧ lo = 144 ∧ hi = 191) ∨ (b0 = 244 ∧ lo = 128 ∧ hi = 143) ∨ (241 ≤ b0 ∧ b0 ≤ 243 ∧ lo = 128 ∧ hi = 191)

theorem dw_three_yes (sz p b0 b1 b2 b3 lo hi : Nat) (h : C3 b0 lo hi) (h1 : p + 3 ≤ sz) (h2 : lo ≤ b1 ∧ b1 ≤ hi) (h3 : 128 ≤ b2 ∧ b2 ≤ 191) : dw sz p b0 b1 b2 b3 = 3 := by
  unfold dw
  rcases h with ⟨rfl, rfl, rfl⟩ | ⟨rfl, rfl, rfl⟩ | ⟨h4, h5, h6, rfl, rfl⟩
  · rw [if_neg (by omega), if_neg (by omega), if_pos (by omega), if_pos (by omega)]
  · rw [if_neg (by omega), if_neg (by omega), if_pos (by omega), if_pos (by omega)]
  · rw [if_neg (by omega), if_neg (by omega), if_pos (by omega), if_pos (by omega)]

theorem dw_three_no (sz p b0 b1 b2 b3 lo hi : Nat) (h : C3 b0 lo hi) (h1 : sz < p + 3 ∨ b1 < lo ∨ hi < b1 ∨ b2 < 128 ∨ 191 < b2) : dw sz p b0 b1 b2 b3 = 1 := by
  unfold dw
  rcases h with ⟨rfl, rfl, rfl⟩ | ⟨rfl, rfl, rfl⟩ | ⟨h4, h5, h6, rfl, rfl⟩
  · rw [if_neg (by omega), if_neg (by omega)]
    split
    · rw [if_neg (by omega)]
    · rw [if_neg (by omega)]
  · rw [if_neg (by omega), if_neg (by omega)]
    split
    · rw [if_neg (by omega)]
    · rw [if_neg (by omega)]
  · rw [if_neg (by omega), if_neg (by omega)]
    split
    · rw [if_neg (by omega)]
    · rw [if_neg (by omega)]

theorem dw_four_yes (sz p b0 b1 b2 b3 lo hi : Nat) (h : C4 b0 lo hi) (h1 : p + 4 ≤ sz) (h2 : lo ≤ b1 ∧ b1 ≤ hi) (h3 : 128 ≤ b2 ∧ b2 ≤ 191) (h4 : 128 ≤ b3 ∧ b3 ≤ 191) : dw sz p b0 b1 b2 b3 = 4 := by
  unfold dw
  rcases h with ⟨rfl, rfl, rfl⟩ | ⟨rfl, rfl, rfl⟩ | ⟨h5, h6, rfl, rfl⟩
  · rw [if_neg (by omega), if_neg (by omega), if_neg (by omega), if_pos (by omega), if_pos (by omega)]
  · rw [if_neg (by omega), if_neg (by omega), if_neg (by omega), if_pos (by omega), if_pos (by omega)]
  · rw [if_neg (by omega), if_neg (by omega), if_neg (by omega), if_pos (by omega), if_pos (by omega)]

theorem dw_four_no (sz p b0 b1 b2 b3 lo hi : Nat) (h : C4 b0 lo hi) (h1 : sz < p + 4 ∨ b1 < lo ∨ hi < b1 ∨ b2 < 128 ∨ 191 < b2 ∨ b3 < 128 ∨ 191 < b3) : dw sz p b0 b1 b2 b3 = 1 := by
  unfold dw
  rcases h with ⟨rfl, rfl, rfl⟩ | ⟨rfl, rfl, rfl⟩ | ⟨h5, h6, rfl, rfl⟩
  · rw [if_neg (by omega), if_neg (by omega), if_neg (by omega)]
    split
    · rw [if_neg (by omega)]
    · rfl
  · rw [if_neg (by omega), if_neg (by omega), if_neg (by omega)]
    split
    · rw [if_neg (by omega)]
    · rfl
  · rw [if_neg (by omega), if_neg (by omega), if_neg (by omega)]
    split
    · rw [if_neg (by omega)]
    · rfl
end Go.Proofs.Qxb6602355a
