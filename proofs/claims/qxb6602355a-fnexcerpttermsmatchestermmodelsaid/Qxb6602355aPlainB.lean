/-
  Seat b6602355a. PLAIN FUNCTIONS, MORE: the parity scan is the skipping scan; the width of a rune, by its bytes, is the model's.
-/
import Derived.Test.Qxb6602355aPlain
namespace Go.Proofs.Qxb6602355a

/-- The scan that counts the run of backslashes: 'odd': the run so far is odd. -/
def scanP : Bool → List UInt8 → Option Nat
  | _, [] => none
  | odd, c :: r => if c = 34 ∧ odd = false then some 1 else (scanP (if c = 92 then !odd else false) r).map (· + 1)

theorem scanP_quote (c : UInt8) (r : List UInt8) (h : c = 34) : scanP false (c :: r) = some 1 := by
  rw [scanP, if_pos ⟨h, rfl⟩]
theorem scanP_back (odd : Bool) (c : UInt8) (r : List UInt8) (h : c = 92) : scanP odd (c :: r) = (scanP (!odd) r).map (· + 1) := by
  rw [scanP, if_neg (fun e => by rw [h] at e; exact absurd e.1 (by decide)), if_pos h]
theorem scanP_other (odd : Bool) (c : UInt8) (r : List UInt8) (h : c ≠ 92) (h' : ¬ (c = 34 ∧ odd = false)) : scanP odd (c :: r) = (scanP false r).map (· + 1) := by
  rw [scanP, if_neg h', if_neg h]

theorem scanP_odd (c : UInt8) (r : List UInt8) : scanP true (c :: r) = (scanP false r).map (· + 1) := by
  by_cases h : c = 92
  · rw [scanP_back true c r h]; rfl
  · rw [scanP_other true c r h (fun e => by cases e.2)]

theorem map_map (o : Option Nat) (a b : Nat) : (o.map (· + a)).map (· + b) = o.map (· + (a + b)) := by
  cases o with
  | none => rfl
  | some x => exact congrArg some (Nat.add_assoc x a b)

theorem scanP_scanQ : ∀ (n : Nat) (l : List UInt8), l.length ≤ n → scanP false l = scanQ l := by
  intro n
  induction n with
  | zero =>
    intro l hl
    have : l = [] := List.length_eq_zero_iff.1 (by omega)
    subst this; rfl
  | succ n ih =>
    intro l hl
    match l, hl with
    | [], _ => rfl
    | c :: r, hl =>
      simp only [List.length_cons] at hl
      by_cases h : c = 92
      · match r, hl with
        | [], _ => rw [scanP_back false c [] h, scanQ_back1 c h]; rfl
        | d :: r, hl =>
          simp only [List.length_cons] at hl
          rw [scanP_back false c _ h, scanQ_back c d r h]
          show (scanP true (d :: r)).map (· + 1) = _
          rw [scanP_odd, map_map, ih r (by omega)]
      · by_cases h' : c = 34
        · rw [scanP_quote c r h', scanQ_quote c r h']
        · rw [scanP_other false c r h (fun e => h' e.1), scanQ_other c r h h', ih r (by omega)]

/-- The width that the model's decoder gives, by the bytes. -/
def dw (sz p b0 b1 b2 b3 : Nat) : Nat :=
  if b0 < 128 then 1
  else if b0 / 32 = 6 ∧ p + 1 < sz ∧ b1 / 64 = 2 then (if 128 ≤ (b0 % 32) * 64 + b1 % 64 then 2 else 1)
  else if b0 / 16 = 14 ∧ (p + 1 < sz ∧ b1 / 64 = 2) ∧ (p + 2 < sz ∧ b2 / 64 = 2) then
    (if 2048 ≤ (b0 % 16) * 4096 + (b1 % 64) * 64 + b2 % 64 ∧ ((b0 % 16) * 4096 + (b1 % 64) * 64 + b2 % 64 < 55296 ∨ (57344 ≤ (b0 % 16) * 4096 + (b1 % 64) * 64 + b2 % 64 ∧ (b0 % 16) * 4096 + (b1 % 64) * 64 + b2 % 64 ≤ 1114111)) then 3 else 1)
  else if b0 / 8 = 30 ∧ (p + 1 < sz ∧ b1 / 64 = 2) ∧ (p + 2 < sz ∧ b2 / 64 = 2) ∧ (p + 3 < sz ∧ b3 / 64 = 2) then
    (if 65536 ≤ (b0 % 8) * 262144 + (b1 % 64) * 4096 + (b2 % 64) * 64 + b3 % 64 ∧ (b0 % 8) * 262144 + (b1 % 64) * 4096 + (b2 % 64) * 64 + b3 % 64 ≤ 1114111 then 4 else 1)
  else 1

theorem dw_decode (s : ByteArray) (p : Nat) : (Utf8.decode s p).2 = dw s.size p (s.get! (p + 0)).toNat (s.get! (p + 1)).toNat (s.get! (p + 2)).toNat (s.get! (p + 3)).toNat := by
  have h0 : (s.get! (p + 0)).toNat < 256 := (s.get! (p + 0)).toNat_lt
  have h1 : (s.get! (p + 1)).toNat < 256 := (s.get! (p + 1)).toNat_lt
  have h2 : (s.get! (p + 2)).toNat < 256 := (s.get! (p + 2)).toNat_lt
  have h3 : (s.get! (p + 3)).toNat < 256 := (s.get! (p + 3)).toNat_lt
  simp only [Utf8.decode]
  obtain ⟨b0, e0⟩ : ∃ b, (s.get! (p + 0)).toNat = b := ⟨_, rfl⟩
  obtain ⟨b1, e1⟩ : ∃ b, (s.get! (p + 1)).toNat = b := ⟨_, rfl⟩
  obtain ⟨b2, e2⟩ : ∃ b, (s.get! (p + 2)).toNat = b := ⟨_, rfl⟩
  obtain ⟨b3, e3⟩ : ∃ b, (s.get! (p + 3)).toNat = b := ⟨_, rfl⟩
  rw [e0] at h0
  rw [e1] at h1
  rw [e2] at h2
  rw [e3] at h3
  simp only [e0, e1, e2, e3]
  clear e0 e1 e2 e3
  unfold dw Utf8.valid
  by_cases c0 : b0 < 128
  · simp [c0]
  · by_cases c1 : b0 / 32 = 6 ∧ p + 1 < s.size ∧ b1 / 64 = 2
    · simp [c0, c1]
      split <;> rfl
    · rw [if_neg c0, if_neg c0, if_neg c1, if_neg (by simp; omega)]
      by_cases c2 : b0 / 16 = 14 ∧ (p + 1 < s.size ∧ b1 / 64 = 2) ∧ (p + 2 < s.size ∧ b2 / 64 = 2)
      · rw [if_pos c2, if_pos (by simp; omega)]
        split
        · rename_i h
          rw [if_pos (by simp at h; omega)]
        · rename_i h
          rw [if_neg (by simp at h; omega)]
      · rw [if_neg c2, if_neg (by simp; omega)]
        by_cases c3 : b0 / 8 = 30 ∧ (p + 1 < s.size ∧ b1 / 64 = 2) ∧ (p + 2 < s.size ∧ b2 / 64 = 2) ∧ (p + 3 < s.size ∧ b3 / 64 = 2)
        · rw [if_pos c3, if_pos (by simp; omega)]
          split
          · rename_i h
            rw [if_pos (by simp at h; omega)]
          · rename_i h
            rw [if_neg (by simp at h; omega)]
        · rw [if_neg c3, if_neg (by simp; omega)]
end Go.Proofs.Qxb6602355a
