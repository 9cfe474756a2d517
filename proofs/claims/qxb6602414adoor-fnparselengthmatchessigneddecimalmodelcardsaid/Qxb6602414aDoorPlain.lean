/-
  Seat b6602414aD. PLAIN FUNCTIONS: how strconv.Atoi ends, as a number and a mark; the laws that the law's own model of it (a loop over the digits) wants. No program in sight.
-/
import Derived.Lib.AtoiAll
namespace Go.Proofs.Qxb6602414aDoor
open Go

/-- How Atoi ends: the number, and whether there is no error. -/
def pend (l : List UInt8) : Int × Bool := match Lib.atoiAll l with
  | .ok v => (v, true)
  | .range => (Lib.atoiSat l, false)
  | _ => (0, false)

/-- What the sign makes of the magnitude's parse. -/
def mEnd (neg : Bool) (m : Lib.NumEnd Nat) : Int × Bool := match m with
  | .ok u => if neg then (if 9223372036854775808 < u then (-9223372036854775808, false) else (-(u : Int), true)) else (if 9223372036854775808 ≤ u then (9223372036854775807, false) else ((u : Int), true))
  | .range => (if neg then -9223372036854775808 else 9223372036854775807, false)
  | _ => (0, false)

theorem pend_nil : pend [] = (0, false) := rfl


theorem pend_of (c : UInt8) (r b : List UInt8) (neg : Bool) (hn : (neg = true ↔ c.toNat = 45)) (hb : (if c.toNat = 43 ∨ c.toNat = 45 then r else c :: r) = b) : pend (c :: r) = mEnd neg (Lib.parseMag b) := by
  have hs : Lib.atoiSat (c :: r) = if neg then -9223372036854775808 else 9223372036854775807 := by
    unfold Lib.atoiSat
    cases neg with
    | true => rw [if_pos (by simpa using hn.1 rfl)]; rfl
    | false =>
      rw [if_neg]
      · rfl
      · intro h
        have : c.toNat = 45 := by simpa using h
        exact absurd (hn.2 this) (by decide)
  unfold pend Lib.atoiAll
  simp only [hb]
  cases hm : Lib.parseMag b with
  | ok u =>
    cases neg with
    | true =>
      have h45 := hn.1 rfl
      by_cases h : 9223372036854775808 < u
      · simp [h45, h, hs, mEnd]
      · simp [h45, h, mEnd]
    | false =>
      have h45 : ¬ c.toNat = 45 := fun e => absurd (hn.2 e) (by decide)
      by_cases h : 9223372036854775808 ≤ u
      · simp [h45, h, hs, mEnd]
      · simp [h45, h, mEnd]
  | range => simp [hs, mEnd]
  | _ => simp [mEnd]

theorem mag_nil (neg : Bool) : mEnd neg (Lib.parseMag []) = (0, false) := rfl
theorem mag_cons (c : UInt8) (r : List UInt8) : Lib.parseMag (c :: r) = Lib.parseUint10 0 (c :: r) := rfl

theorem pu_bad (neg : Bool) (acc : Nat) (c : UInt8) (r : List UInt8) (h : ¬ (48 ≤ c.toNat ∧ c.toNat ≤ 57)) : mEnd neg (Lib.parseUint10 acc (c :: r)) = (0, false) := by
  simp only [Lib.parseUint10, if_neg h]
  rfl

theorem pu_over (neg : Bool) (acc : Nat) (c : UInt8) (r : List UInt8) (h : 48 ≤ c.toNat ∧ c.toNat ≤ 57) (ho : 18446744073709551616 ≤ acc * 10 + (c.toNat - 48)) : mEnd neg (Lib.parseUint10 acc (c :: r)) = (if neg then -9223372036854775808 else 9223372036854775807, false) := by
  simp only [Lib.parseUint10, if_pos h]
  by_cases h1 : 1844674407370955162 ≤ acc
  · rw [if_pos h1]; rfl
  · rw [if_neg h1, if_pos ho]; rfl

theorem pu_step (acc : Nat) (c : UInt8) (r : List UInt8) (h : 48 ≤ c.toNat ∧ c.toNat ≤ 57) (ho : ¬ 18446744073709551616 ≤ acc * 10 + (c.toNat - 48)) : Lib.parseUint10 acc (c :: r) = Lib.parseUint10 (acc * 10 + (c.toNat - 48)) r := by
  simp only [Lib.parseUint10, if_pos h]
  rw [if_neg (by omega), if_neg ho]

theorem pu_end (neg : Bool) (acc : Nat) : mEnd neg (Lib.parseUint10 acc []) = if neg then (if 9223372036854775808 < acc then (-9223372036854775808, false) else (-(acc : Int), true)) else (if 9223372036854775808 ≤ acc then (9223372036854775807, false) else ((acc : Int), true)) := rfl
end Go.Proofs.Qxb6602414aDoor
