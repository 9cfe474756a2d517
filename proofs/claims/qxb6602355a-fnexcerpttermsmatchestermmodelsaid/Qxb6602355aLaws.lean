/-
  Seat b6602355a. THE WALKS OF TWO LAWS: 'FnExcerptTermsOfOneTermIsExcerpt', 'FnExcerptTermsSplitsAtAQuoteFreeSpace'.
-/
import Derived.Test.Qxb6602355aTerms
namespace Go.Proofs.Qxb6602355a
open Go.RowKit

/-- The law's end. -/
def Done (w : World) (e : Ending) (w' : World) : Prop := e = .returned (.bool true) ∧ Below w.heap.size w w'

theorem zzTerms_any (s : ByteArray) (w : World) (hs : s.size ≤ 1048576) :
    Calls Try.prog 22 #[.string s] w fun e w' => e = .returned (.string ⟨(ext s.data.toList).toArray⟩) ∧ Below w.heap.size w w' := by
  go_enter Try.func22, Try.ntmps22
  go_wp2_with (go_at_call 31; refine (excerptTerms_any _ _ hs).mono ?_; rintro e w1 ⟨rfl, b1⟩)
  go_ret
  exact ⟨rfl, b1⟩

theorem has32 (s : ByteArray) (w : World) (hs : s.size ≤ 1048576) : Calls Try.prog 25 #[.string s, .int .u8 32] w fun e w' => NoByte s 32 w e w' := by
  have h := hasByte_any s 32 w hs
  have e : ((32 : UInt8).toNat : Int) = 32 := rfl
  rw [e] at h
  exact h
theorem has34 (s : ByteArray) (w : World) (hs : s.size ≤ 1048576) : Calls Try.prog 25 #[.string s, .int .u8 34] w fun e w' => NoByte s 34 w e w' := by
  have h := hasByte_any s 34 w hs
  have e : ((34 : UInt8).toNat : Int) = 34 := rfl
  rw [e] at h
  exact h

theorem one_eq (s : ByteArray) (h : ∀ x ∈ s.data.toList, x ≠ 32) : ext s.data.toList = excB s := by
  rw [ext_one _ h]; rfl

theorem beq_self {a b : ByteArray} (h : a = b) : (a.toList == b.toList) = true := by rw [h]; simp

set_option maxHeartbeats 1000000 in
set_option maxRecDepth 100000 in
theorem law_one (s : ByteArray) (w : World) (hs : s.size ≤ maxLen) :
    Calls Try.prog 9 #[.string s] w fun e w' => Done w e w' := by
  have HS : Hid (s.size ≤ maxLen) := hs
  unfold maxLen at hs
  go_enter Try.func9, Try.ntmps9
  go_wp2_with fail
  refine (bytes24 s w HS.out).mono ?_
  rintro e w ⟨b, rfl, rfl⟩
  cases b with
  | false =>
    go_wp2
    go_ret
    exact ⟨rfl, Below.refl _ _⟩
  | true =>
  by_cases hbig : 4096 < s.size
  · have hb' : (4096 : Int) < (s.size : Int) := by omega
    go_wp2
    go_ret
    exact ⟨rfl, Below.refl _ _⟩
  have hb' : ¬ (4096 : Int) < (s.size : Int) := by omega
  go_wp2_with fail
  refine (has32 s w (by omega)).mono ?_
  rintro e w ⟨b, rfl, rfl, hno⟩
  cases b with
  | true =>
    clear hno
    go_wp2
    go_ret
    exact ⟨rfl, Below.refl _ _⟩
  | false =>
  have HE : Hid (ext s.data.toList = excB s) := one_eq s (hno rfl)
  clear hno
  go_wp2_with fail
  refine (zzTerms_any s w (by omega)).mono ?_
  rintro e w1 ⟨rfl, b1⟩
  have B1 : Hid (Below w.heap.size w w1) := b1
  clear b1
  go_wp2_with fail
  refine (excerpt_any s w1 (by omega)).mono ?_
  rintro e w2 ⟨rfl, b2⟩
  have B2 : Hid (Below w.heap.size w w2) := B1.out.trans (b2.mono B1.out.size)
  clear b2
  rw [HE.out]
  go_wp2
  go_ret
  exact ⟨by simp, B2.out⟩

theorem ext_le : ∀ (n : Nat) (l : List UInt8), l.length ≤ n → (ext l).length ≤ 4 * l.length := by
  intro n
  induction n with
  | zero =>
    intro l hl
    have : l = [] := List.length_eq_zero_iff.1 (by omega)
    subst this
    exact Nat.le_refl _
  | succ n ih =>
    intro l hl
    match l, hl with
    | [], _ => exact Nat.le_refl _
    | c :: r, hl =>
      simp only [List.length_cons] at hl
      by_cases h : c = 32
      · rw [ext_space c r h, List.length_cons, List.length_cons]
        have := ih r (by omega)
        omega
      · have h1 := term_pos c r h
        have h2 := term_le (c :: r)
        have h3 := exc_le ((c :: r).take (term (c :: r)))
        have h4 := ih ((c :: r).drop (term (c :: r))) (by rw [List.length_drop, List.length_cons]; omega)
        rw [ext_term c r h, List.length_append]
        rw [List.length_drop] at h4
        rw [List.length_take] at h3
        rw [List.length_cons] at *
        omega

theorem size_ext (s : ByteArray) : (⟨(ext s.data.toList).toArray⟩ : ByteArray).size ≤ 4 * s.size := by
  have h := ext_le _ s.data.toList (Nat.le_refl _)
  rw [size_list] at h
  show (ext s.data.toList).toArray.size ≤ _
  simpa using h

theorem split_eq (a b : ByteArray) (h : ∀ x ∈ a.data.toList, x ≠ 34) :
    (⟨(ext (a ++ ⟨#[32]⟩ ++ b).data.toList).toArray⟩ : ByteArray) = ⟨(ext a.data.toList).toArray⟩ ++ ⟨#[32]⟩ ++ ⟨(ext b.data.toList).toArray⟩ := by
  have e : (a ++ ⟨#[32]⟩ ++ b).data.toList = a.data.toList ++ 32 :: b.data.toList := by simp
  rw [e, ext_split _ _ _ (Nat.le_refl _) h]
  apply ByteArray.ext
  apply Array.ext'
  simp

set_option maxHeartbeats 1000000 in
set_option maxRecDepth 100000 in
theorem law_split (a b : ByteArray) (w : World) (ha : a.size ≤ maxLen) (hb : b.size ≤ maxLen) :
    Calls Try.prog 10 #[.string a, .string b] w fun e w' => Done w e w' := by
  have HS : Hid (a.size ≤ maxLen ∧ b.size ≤ maxLen) := ⟨ha, hb⟩
  unfold maxLen at ha hb
  go_enter Try.func10, Try.ntmps10
  go_wp2_with fail
  refine (bytes27 a b w HS.out.1 HS.out.2).mono ?_
  rintro e w ⟨c, rfl, rfl⟩
  cases c with
  | false =>
    go_wp2
    go_ret
    exact ⟨rfl, Below.refl _ _⟩
  | true =>
  by_cases hbig : 4096 < a.size
  · have hb' : (4096 : Int) < (a.size : Int) := by omega
    go_wp2
    go_ret
    exact ⟨rfl, Below.refl _ _⟩
  by_cases hbig2 : 4096 < b.size
  · have hb' : ¬ (4096 : Int) < (a.size : Int) := by omega
    have hb2' : (4096 : Int) < (b.size : Int) := by omega
    go_wp2
    go_ret
    exact ⟨rfl, Below.refl _ _⟩
  have hb' : ¬ (4096 : Int) < (a.size : Int) := by omega
  have hb2' : ¬ (4096 : Int) < (b.size : Int) := by omega
  go_wp2_with fail
  refine (has34 a w (by omega)).mono ?_
  rintro e w ⟨c, rfl, rfl, hno⟩
  cases c with
  | true =>
    clear hno
    go_wp2
    go_ret
    exact ⟨rfl, Below.refl _ _⟩
  | false =>
  have HN : Hid (∀ x ∈ a.data.toList, x ≠ 34) := hno rfl
  clear hno
  go_wp2_with fail
  refine (zzTerms_any _ w (by rw [ByteArray.size_append, ByteArray.size_append]; show a.size + 1 + b.size ≤ _; omega)).mono ?_
  rintro e w1 ⟨rfl, b1⟩
  have B1 : Hid (Below w.heap.size w w1) := b1
  clear b1
  have heq := split_eq a b HN.out
  have sa := size_ext a
  have sb := size_ext b
  obtain ⟨ea, hea⟩ : ∃ x : ByteArray, x = ⟨(ext a.data.toList).toArray⟩ := ⟨_, rfl⟩
  obtain ⟨eb, heb⟩ : ∃ x : ByteArray, x = ⟨(ext b.data.toList).toArray⟩ := ⟨_, rfl⟩
  rw [← hea] at sa heq
  rw [← heb] at sb heq
  rw [heq]
  have HEA : Hid (ea = ⟨(ext a.data.toList).toArray⟩) := hea
  have HEB : Hid (eb = ⟨(ext b.data.toList).toArray⟩) := heb
  clear hea heb heq
  go_wp2_with fail
  refine (zzTerms_any a w1 (by omega)).mono ?_
  rw [← HEA.out]
  rintro e w2 ⟨rfl, b2⟩
  have B2 : Hid (Below w.heap.size w w2) := B1.out.trans (b2.mono B1.out.size)
  clear b2
  go_wp2_with fail
  refine (zzTerms_any b w2 (by omega)).mono ?_
  rw [← HEB.out]
  rintro e w3 ⟨rfl, b3⟩
  have B3 : Hid (Below w.heap.size w w3) := B2.out.trans (b3.mono B2.out.size)
  clear b3
  go_wp2
  go_ret
  exact ⟨by simp, B3.out⟩
end Go.Proofs.Qxb6602355a
