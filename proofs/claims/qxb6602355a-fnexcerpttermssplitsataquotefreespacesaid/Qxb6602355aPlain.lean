/-
  Seat b6602355a. PLAIN FUNCTIONS: what 'quotedLen', 'excerptTerms' and the package's 'Excerpt' compute, on lists of bytes; and the laws. No program in sight, but for the model's own 'Utf8.decode'.
-/
import GoSem.Core.Utf8
namespace Go.Proofs.Qxb6602355a

/-- How many bytes, from the first behind an opening quote on, up to and with the closing one. -/
def scanQ : List UInt8 → Option Nat
  | [] => none
  | [c] => if c = 92 then none else if c = 34 then some 1 else none
  | c :: d :: r => if c = 92 then (scanQ r).map (· + 2) else if c = 34 then some 1 else (scanQ (d :: r)).map (· + 1)

theorem scanQ_back (c d : UInt8) (r : List UInt8) (h : c = 92) : scanQ (c :: d :: r) = (scanQ r).map (· + 2) := by
  rw [scanQ, if_pos h]

theorem scanQ_back1 (c : UInt8) (h : c = 92) : scanQ [c] = none := by rw [scanQ, if_pos h]

theorem scanQ_quote (c : UInt8) (r : List UInt8) (h : c = 34) : scanQ (c :: r) = some 1 := by
  subst h
  cases r with
  | nil => rfl
  | cons d r => rw [scanQ, if_neg (by decide), if_pos rfl]

theorem scanQ_other (c : UInt8) (r : List UInt8) (h : c ≠ 92) (h' : c ≠ 34) : scanQ (c :: r) = (scanQ r).map (· + 1) := by
  cases r with
  | nil =>
    show (if c = 92 then none else if c = 34 then some 1 else none) = none
    rw [if_neg h, if_neg h']
  | cons d r => rw [scanQ, if_neg h, if_neg h']

theorem scanQ_le : ∀ (n : Nat) (l : List UInt8), l.length ≤ n → ∀ k, scanQ l = some k → 1 ≤ k ∧ k ≤ l.length := by
  intro n
  induction n with
  | zero =>
    intro l hl k hk
    have : l = [] := List.length_eq_zero_iff.1 (by omega)
    subst this
    cases hk
  | succ n ih =>
    intro l hl k hk
    match l, hl, hk with
    | [], _, hk => cases hk
    | c :: r, hl, hk =>
      by_cases h : c = 92
      · match r, hl, hk with
        | [], _, hk => rw [scanQ_back1 c h] at hk; cases hk
        | d :: r, hl, hk =>
          rw [scanQ_back c d r h] at hk
          obtain ⟨m, hm, rfl⟩ := Option.map_eq_some_iff.1 hk
          simp only [List.length_cons] at hl ⊢
          have := ih r (by omega) m hm
          omega
      · by_cases h' : c = 34
        · rw [scanQ_quote c r h'] at hk
          cases hk
          simp
        · rw [scanQ_other c r h h'] at hk
          obtain ⟨m, hm, rfl⟩ := Option.map_eq_some_iff.1 hk
          simp only [List.length_cons] at hl ⊢
          have := ih r (by omega) m hm
          omega

def optLen : Option Nat → Nat
  | some k => k + 1
  | none => 1

/-- quotedLen. -/
def qlen : List UInt8 → Nat
  | [] => 1
  | c :: r => if c = 34 then optLen (scanQ r) else 1

theorem qlen_cons (c : UInt8) (r : List UInt8) : qlen (c :: r) = if c = 34 then optLen (scanQ r) else 1 := rfl

theorem qlen_pos (l : List UInt8) : 1 ≤ qlen l := by
  cases l with
  | nil => exact Nat.le_refl _
  | cons c r =>
    rw [qlen_cons]
    split
    · cases scanQ r with
      | none => exact Nat.le_refl _
      | some k => exact Nat.succ_le_succ (Nat.zero_le _)
    · omega

theorem qlen_le (c : UInt8) (r : List UInt8) : qlen (c :: r) ≤ r.length + 1 := by
  rw [qlen_cons]
  split
  · cases hk : scanQ r with
    | none => exact Nat.succ_le_succ (Nat.zero_le _)
    | some k => exact Nat.succ_le_succ (scanQ_le r.length r (Nat.le_refl _) k hk).2
  · omega

theorem qlen_other (c : UInt8) (r : List UInt8) (h : c ≠ 34) : qlen (c :: r) = 1 := by
  rw [qlen_cons, if_neg h]

/-- The term that begins here: its length. -/
def termF : Nat → List UInt8 → Nat
  | 0, _ => 0
  | _ + 1, [] => 0
  | f + 1, c :: r => if c = 32 then 0 else qlen (c :: r) + termF f ((c :: r).drop (qlen (c :: r)))

theorem termF_any : ∀ (f g : Nat) (l : List UInt8), l.length ≤ f → l.length ≤ g → termF f l = termF g l := by
  intro f
  induction f with
  | zero =>
    intro g l hf hg
    have : l = [] := List.length_eq_zero_iff.1 (by omega)
    subst this
    cases g <;> rfl
  | succ f ih =>
    intro g l hf hg
    match l, hf, hg with
    | [], _, _ => cases g <;> rfl
    | c :: r, hf, hg =>
      simp only [List.length_cons] at hf hg
      obtain ⟨g, rfl⟩ : ∃ k, g = k + 1 := ⟨g - 1, by omega⟩
      unfold termF
      by_cases h : c = 32
      · rw [if_pos h, if_pos h]
      · rw [if_neg h, if_neg h]
        have h1 := qlen_pos (c :: r)
        have h2 : ((c :: r).drop (qlen (c :: r))).length ≤ r.length := by rw [List.length_drop, List.length_cons]; omega
        rw [ih g _ (by omega) (by omega)]

theorem termF_le : ∀ (f : Nat) (l : List UInt8), termF f l ≤ l.length := by
  intro f
  induction f with
  | zero => intro l; exact Nat.zero_le _
  | succ f ih =>
    intro l
    cases l with
    | nil => exact Nat.le_refl _
    | cons c r =>
      unfold termF
      split
      · omega
      · have h := ih ((c :: r).drop (qlen (c :: r)))
        have h2 := qlen_le c r
        rw [List.length_drop, List.length_cons] at h
        rw [List.length_cons]
        omega

def term (l : List UInt8) : Nat := termF l.length l

theorem term_nil : term [] = 0 := rfl
theorem term_le (l : List UInt8) : term l ≤ l.length := termF_le _ _
theorem term_space (c : UInt8) (r : List UInt8) (h : c = 32) : term (c :: r) = 0 := by
  unfold term; rw [List.length_cons, termF, if_pos h]
theorem term_cons (c : UInt8) (r : List UInt8) (h : c ≠ 32) : term (c :: r) = qlen (c :: r) + term ((c :: r).drop (qlen (c :: r))) := by
  unfold term
  rw [List.length_cons, termF, if_neg h]
  have h1 := qlen_pos (c :: r)
  rw [termF_any r.length _ _ (by rw [List.length_drop, List.length_cons]; omega) (Nat.le_refl _)]
theorem term_pos (c : UInt8) (r : List UInt8) (h : c ≠ 32) : 1 ≤ term (c :: r) := by
  rw [term_cons c r h]; have := qlen_pos (c :: r); omega

/-- Where the rune behind the first n, from pos on, begins. -/
def cutF (s : ByteArray) : Nat → Nat → Option Nat
  | 0, pos => if pos < s.size then some pos else none
  | n + 1, pos => if pos < s.size then cutF s n (pos + (Utf8.decode s pos).2) else none

/-- Excerpt. -/
def excB (s : ByteArray) : List UInt8 :=
  match cutF s 64 0 with
  | some p => s.data.toList.take p ++ [226, 128, 166]
  | none => s.data.toList

theorem cutF_lt (s : ByteArray) : ∀ (n pos p : Nat), cutF s n pos = some p → p < s.size := by
  intro n
  induction n with
  | zero =>
    intro pos p h
    unfold cutF at h
    split at h
    · cases h; assumption
    · cases h
  | succ n ih =>
    intro pos p h
    unfold cutF at h
    split at h
    · exact ih _ _ h
    · cases h

def exc (t : List UInt8) : List UInt8 := excB ⟨t.toArray⟩

theorem excB_le (s : ByteArray) : (excB s).length ≤ s.size + 3 := by
  have hs : s.data.toList.length = s.size := by show s.data.toList.length = s.data.size; simp
  unfold excB
  split
  · rename_i p hp
    rw [List.length_append, List.length_take]
    simp
    omega
  · omega

theorem exc_le (t : List UInt8) : (exc t).length ≤ t.length + 3 := by
  have h := excB_le ⟨t.toArray⟩
  have e : (⟨t.toArray⟩ : ByteArray).size = t.length := by show t.toArray.size = _; simp
  rw [e] at h
  exact h

theorem exc_nil : exc [] = [] := by
  unfold exc excB
  have : cutF ⟨([] : List UInt8).toArray⟩ 64 0 = none := by
    unfold cutF
    rw [if_neg]
    simp [ByteArray.size]
  rw [this]

/-- excerptTerms. -/
def extF : Nat → List UInt8 → List UInt8
  | 0, _ => []
  | _ + 1, [] => []
  | f + 1, c :: r => if c = 32 then 32 :: extF f r else exc ((c :: r).take (term (c :: r))) ++ extF f ((c :: r).drop (term (c :: r)))

theorem extF_any : ∀ (f g : Nat) (l : List UInt8), l.length ≤ f → l.length ≤ g → extF f l = extF g l := by
  intro f
  induction f with
  | zero =>
    intro g l hf hg
    have : l = [] := List.length_eq_zero_iff.1 (by omega)
    subst this
    cases g <;> rfl
  | succ f ih =>
    intro g l hf hg
    match l, hf, hg with
    | [], _, _ => cases g <;> rfl
    | c :: r, hf, hg =>
      simp only [List.length_cons] at hf hg
      obtain ⟨g, rfl⟩ : ∃ k, g = k + 1 := ⟨g - 1, by omega⟩
      unfold extF
      by_cases h : c = 32
      · rw [if_pos h, if_pos h, ih g r (by omega) (by omega)]
      · rw [if_neg h, if_neg h]
        have h1 := term_pos c r h
        have h2 : ((c :: r).drop (term (c :: r))).length ≤ r.length := by rw [List.length_drop, List.length_cons]; omega
        rw [ih g _ (by omega) (by omega)]

def ext (l : List UInt8) : List UInt8 := extF l.length l

theorem ext_nil : ext [] = [] := rfl
theorem ext_space (c : UInt8) (r : List UInt8) (h : c = 32) : ext (c :: r) = 32 :: ext r := by
  unfold ext; rw [List.length_cons, extF, if_pos h]
theorem ext_term (c : UInt8) (r : List UInt8) (h : c ≠ 32) : ext (c :: r) = exc ((c :: r).take (term (c :: r))) ++ ext ((c :: r).drop (term (c :: r))) := by
  unfold ext
  rw [List.length_cons, extF, if_neg h]
  have h1 := term_pos c r h
  rw [extF_any r.length _ _ (by rw [List.length_drop, List.length_cons]; omega) (Nat.le_refl _)]

/-! ### The laws -/

/-- Without a space all is one term. -/
theorem term_all : ∀ (n : Nat) (l : List UInt8), l.length ≤ n → (∀ x ∈ l, x ≠ 32) → term l = l.length := by
  intro n
  induction n with
  | zero =>
    intro l hl _
    have : l = [] := List.length_eq_zero_iff.1 (by omega)
    subst this; rfl
  | succ n ih =>
    intro l hl h
    match l, hl, h with
    | [], _, _ => rfl
    | c :: r, hl, h =>
      simp only [List.length_cons] at hl
      have h1 := qlen_pos (c :: r)
      have h2 := qlen_le c r
      rw [term_cons c r (h c (by simp)), ih _ (by rw [List.length_drop, List.length_cons]; omega) (fun x hx => h x (List.mem_of_mem_drop hx)), List.length_drop, List.length_cons]
      omega

theorem ext_one (l : List UInt8) (h : ∀ x ∈ l, x ≠ 32) : ext l = exc l := by
  match l, h with
  | [], _ => rw [exc_nil]; rfl
  | c :: r, h =>
    rw [ext_term c r (h c (by simp)), term_all _ (c :: r) (Nat.le_refl _) h, List.take_length, List.drop_length, ext_nil, List.append_nil]

/-- A head without a quote: its first term ends where it ends, or ahead of the space. -/
theorem term_head : ∀ (a b : List UInt8), (∀ x ∈ a, x ≠ 34) → term (a ++ 32 :: b) = term a := by
  intro a
  induction a with
  | nil => intro b _; rw [List.nil_append, term_space 32 b rfl]; rfl
  | cons c r ih =>
    intro b h
    by_cases hc : c = 32
    · rw [List.cons_append, term_space c _ hc, term_space c _ hc]
    · have hq := h c (by simp)
      rw [List.cons_append, term_cons c _ hc, term_cons c _ hc, qlen_other c _ hq, qlen_other c _ hq]
      simp only [List.drop_succ_cons, List.drop_zero]
      rw [ih b (fun x hx => h x (List.mem_cons_of_mem _ hx))]

theorem ext_split : ∀ (n : Nat) (a b : List UInt8), a.length ≤ n → (∀ x ∈ a, x ≠ 34) → ext (a ++ 32 :: b) = ext a ++ 32 :: ext b := by
  intro n
  induction n with
  | zero =>
    intro a b hl _
    have : a = [] := List.length_eq_zero_iff.1 (by omega)
    subst this
    rw [List.nil_append, ext_space 32 b rfl]; rfl
  | succ n ih =>
    intro a b hl h
    match a, hl, h with
    | [], _, _ => rw [List.nil_append, ext_space 32 b rfl]; rfl
    | c :: r, hl, h =>
      simp only [List.length_cons] at hl
      by_cases hc : c = 32
      · rw [List.cons_append, ext_space c _ hc, ext_space c _ hc, ih r b (by omega) (fun x hx => h x (List.mem_cons_of_mem _ hx)), List.cons_append]
      · have ht := term_head (c :: r) b h
        have hle := term_le (c :: r)
        have hp := term_pos c r hc
        rw [List.cons_append] at ht ⊢
        rw [ext_term c _ hc, ht, ← List.cons_append, List.take_append_of_le_length hle, List.drop_append_of_le_length hle, ext_term c r hc,
          ih _ b (by rw [List.length_drop, List.length_cons]; omega) (fun x hx => h x (List.mem_of_mem_drop hx)), List.append_assoc]
end Go.Proofs.Qxb6602355a
