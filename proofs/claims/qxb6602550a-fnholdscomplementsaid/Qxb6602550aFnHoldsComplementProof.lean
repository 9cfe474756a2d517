/-
  Seat b6602550a. THE STATEMENT 'Rows.FnHoldsComplementSaid', PROVED.
-/
import Derived.Test.Qxb6602550aRows
import Derived.WalkKit
import Derived.ProofKit
import Derived.OpenShut
import Derived.ShutString
namespace Go.Proofs.Qxb6602550a.fnHoldsComplement
open Go.ChangeShapes Go.WideShapes Go.ChangeAt Go.RowKit
open Go.ChangeMaps (open_string shut_string)
set_option linter.unusedVariables false      -- a walk need not use every 'w<i>' (that an integer argument fits its kind)

theorem own : ownKnob Try.prog.godebug = none := by kernel_rfl

set_option maxHeartbeats 2000000 in
/-- The Go text returns true; the world has new blocks alone: one walk for each of the four boundary words and each sign of the comparison. -/
theorem walk (a0 : Bool) (a1 : Bool) (a2 : Int) (w2 : (Lit.int .i64 a2).wf = true) (w : World) :
    Calls Try.prog 7 #[.bool a0, .bool a1, .int .i64 a2] w fun e w' => e = .returned (.bool true) ∧ Grown w w' := by
  rcases (show a2 = 0 ∨ 0 < a2 ∨ a2 < 0 from by omega) with h | h | h
  · subst h
    cases a0 <;> cases a1
    all_goals
      go_enter Try.func7, Try.ntmps7
      go_wp2
      go_ret
      exact ⟨rfl, by repeat (first | exact Grown.refl _ | apply Grown.drew | apply Grown.alloc)⟩
  · have h0 : (a2 == 0) = false := by simp; omega
    have d1 : decide (a2 < 0) = false := decide_eq_false (by omega)
    have d2 : decide (0 < a2) = true := decide_eq_true h
    have d3 : decide (a2 ≤ 0) = false := decide_eq_false (by omega)
    have d4 : decide (0 ≤ a2) = true := decide_eq_true (by omega)
    cases a0 <;> cases a1
    all_goals
      go_enter Try.func7, Try.ntmps7
      go_wp2
      go_ret
      exact ⟨by simp [*], by repeat (first | exact Grown.refl _ | apply Grown.drew | apply Grown.alloc)⟩
  · have h0 : (a2 == 0) = false := by simp; omega
    have d1 : decide (a2 < 0) = true := decide_eq_true h
    have d2 : decide (0 < a2) = false := decide_eq_false (by omega)
    have d3 : decide (a2 ≤ 0) = true := decide_eq_true (by omega)
    have d4 : decide (0 ≤ a2) = false := decide_eq_false (by omega)
    cases a0 <;> cases a1
    all_goals
      go_enter Try.func7, Try.ntmps7
      go_wp2
      go_ret
      exact ⟨by simp [*], by repeat (first | exact Grown.refl _ | apply Grown.drew | apply Grown.alloc)⟩

/-! ### THE ROW's STEP: WRITTEN OUT: LEAVE IT -/
set_option maxRecDepth 100000 in
theorem lifted (os : Os) (started : os.Started) (H : Type) (enc : TypeId × Value → H) :
    ReturnsInHanded {} Try.checked os 7 .any (Rows.fnHoldsComplementSpec.pre6 enc Try.prog Try.f7 Rows.fnHoldsComplementRow.domain false) (Rows.fnHoldsComplementSpec.post enc Try.prog Try.f7 false true false false) := by
  refine returnsInHanded_of_change (C := Try.checked) own started (by kernel_rfl) Try.func7
    (ChangeSpec.witness6 (enc := enc) (C := Try.checked) false ⟨#[], #[.bool false, .bool false, .int .i64 0], []⟩ 8 (by kernel_rfl) (by kernel_rfl) (by kernel_rfl) (by kernel_rfl)) ?_
  intro W base args ds gs before hval0 hW hcnd _
  have hval : ∀ (j : Nat) t v, Try.f7.params[j]? = some t → args[j]? = some v → Value.okWide Try.prog W .any base t v := hval0
  have hW' := hW
  obtain ⟨p, q, hA0, hV, rfl, hfz, hnd⟩ := hW
  have hA : DataW.TrodAll enc Try.prog W 0 (fun _ => true) true Try.f7.params.toList args.toList ds p := hA0
  rw [Try.params7] at hA hval
  obtain ⟨v0, vs0, d0, ds0, p0, q0, hargs, rfl, rfl, h0, r0⟩ := trodAll_cons hA
  obtain ⟨v1, vs1, d1, ds1, p1, q1, rfl, rfl, rfl, h1, r1⟩ := trodAll_cons r0
  obtain ⟨v2, vs2, d2, ds2, p2, q2, rfl, rfl, rfl, h2, r2⟩ := trodAll_cons r1
  obtain ⟨rfl, rfl, rfl⟩ := trodAll_nil r2
  obtain rfl : args = #[v0, v1, v2] := by cases args; simp_all
  obtain ⟨rfl, rfl⟩ := trodVars_none hV
  obtain ⟨a0, rfl, rfl, rfl⟩ := open_bool Try.underlying4 (hval 0 4 v0 rfl rfl) h0
  obtain ⟨a1, rfl, rfl, rfl⟩ := open_bool Try.underlying4 (hval 1 4 v1 rfl rfl) h1
  obtain ⟨a2, rfl, rfl, rfl, w2⟩ := open_int Try.underlying3 (hval 2 3 v2 rfl rfl) h2
  clear hA0 hval0
  simp only [List.append_nil] at hW'
  refine (walk a0 a1 a2 w2 W).mono fun e W' ⟨he, hg⟩ => ?_
  subst he
  exact ⟨_, rfl, post_of_same (pa := []) (pv := []) hW' (fun _ _ _ => (trodAll_cons_mk (shut_bool Try.underlying4 _) trodAll_mk0)) (fun sp _ => (trodAll_cons_mk (shut_bool Try.underlying4 _) (trodAll_cons_mk (shut_bool Try.underlying4 _) (trodAll_cons_mk (shut_int Try.underlying3 w2) trodAll_mk0)))) (fun _ _ => rfl) rfl
    (hg.frame _) hg.2.1 (ok_one (by kernel_rfl) rfl (okWide_bool_mk Try.underlying4 _))⟩

theorem over : Rows.fnHoldsComplementRow.holds Try.pinned (OpenSpec.ofChange Rows.fnHoldsComplementSpec) :=
  OpenClaim.holds_of_wide 7 Try.f7 rfl rfl rfl rfl rfl rfl rfl ⟨rfl, rfl, rfl, rfl, rfl⟩ rfl rfl rfl rfl rfl (by kernel_rfl) Try.func7 (by kernel_rfl)
    (of_decide_eq_true (by kernel_rfl)) (by unfold Func.isWrapper; first | (rw [if_pos (by decide +kernel)]; kernel_rfl) | (rw [if_neg (by decide +kernel)]; exact ⟨rfl, rfl⟩))
    (fun os started H enc _ => lifted os started H enc)

/-- THE STATEMENT. -/
theorem proved : Rows.FnHoldsComplementSaid :=
  over
end Go.Proofs.Qxb6602550a.fnHoldsComplement
