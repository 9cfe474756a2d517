/-
  THE CLOSED FACTS OF THE ROW 'Rows.fnExcerptTermsOfOneTermIsExcerptRow', one theorem each (together they outgrow the kernel's memory lid), and joined.
-/
import Derived.Test.Qxb6602355aRows
import Derived.ProofKit
namespace Go.Proofs.Qxb6602355a.fnExcerptTermsOfOneTermIsExcerpt
theorem fact0 : (Rows.fnExcerptTermsOfOneTermIsExcerptRow.wf (OpenSpec.ofChange Rows.fnExcerptTermsOfOneTermIsExcerptSpec)) = true := by kernel_rfl
theorem fact1 : (laidOutB Try.prog) = true := by kernel_rfl
theorem fact2 : (mapsRowed Try.prog) = true := by kernel_rfl
theorem fact3 : (Try.f9.params.all (Try.prog.readableRec ·)) = true := by kernel_rfl
theorem fact4 : (namedTie Try.prog Rows.fnExcerptTermsOfOneTermIsExcerptRow.named Rows.fnExcerptTermsOfOneTermIsExcerptSpec.vars) = true := by kernel_rfl
theorem fact5 : ((Rows.fnExcerptTermsOfOneTermIsExcerptRow.stops == [])) = true := by kernel_rfl
theorem fact6 : ((Try.prog.stops == [])) = true := by kernel_rfl
theorem fact7 : ((Rows.fnExcerptTermsOfOneTermIsExcerptRow.knobs == [])) = true := by kernel_rfl
theorem fact8 : ((Try.prog.stopKnobs == [])) = true := by kernel_rfl
theorem fact9 : ((Rows.fnExcerptTermsOfOneTermIsExcerptRow.inPlace == Try.prog.inPlace 9)) = true := by kernel_rfl
theorem fact10 : ((Rows.fnExcerptTermsOfOneTermIsExcerptRow.unfollowed == Try.prog.unfollowed 9)) = true := by kernel_rfl
theorem fact11 : ((Rows.fnExcerptTermsOfOneTermIsExcerptRow.recurses == Try.prog.recurses 9)) = true := by kernel_rfl
theorem fact12 : ((Rows.fnExcerptTermsOfOneTermIsExcerptRow.named == Try.prog.varsNamed 9)) = true := by kernel_rfl
theorem fact13 : ((Rows.fnExcerptTermsOfOneTermIsExcerptRow.maps == (Try.f9.params.toList ++ Rows.fnExcerptTermsOfOneTermIsExcerptSpec.plain.varTypes Try.prog).any (Try.prog.mapsRec ·))) = true := by kernel_rfl
theorem fact14 : ((Rows.fnExcerptTermsOfOneTermIsExcerptRow.ifaces == (Try.f9.params.toList ++ Rows.fnExcerptTermsOfOneTermIsExcerptSpec.plain.varTypes Try.prog).any (Try.prog.ifacesRec ·))) = true := by kernel_rfl
theorem fact15 : ((Rows.fnExcerptTermsOfOneTermIsExcerptRow.mapsOut == Try.prog.mapsAmong Try.f9.resultTypes.toList)) = true := by kernel_rfl
theorem fact16 : ((Rows.fnExcerptTermsOfOneTermIsExcerptRow.loops == (Try.f9.params.toList ++ Rows.fnExcerptTermsOfOneTermIsExcerptSpec.plain.varTypes Try.prog).any (Try.prog.loopsFrom ·))) = true := by kernel_rfl
theorem fact17 : ((Rows.fnExcerptTermsOfOneTermIsExcerptRow.wideKeys == (Try.f9.params.toList ++ Rows.fnExcerptTermsOfOneTermIsExcerptSpec.plain.varTypes Try.prog ++ Try.f9.resultTypes.toList).any (Try.prog.wideKeysFrom ·))) = true := by kernel_rfl
theorem fact18 : (Rows.fnExcerptTermsOfOneTermIsExcerptSpec.vars.all (Try.prog.varReadable ·)) = true := by kernel_rfl
theorem fact19 : (Try.f9.resultTypes.all (fun t => Try.prog.readableRec t && decide (t < Try.prog.types.size))) = true := by kernel_rfl
theorem fact20 : ((Rows.fnExcerptTermsOfOneTermIsExcerptRow.ifacesOut == Try.f9.resultTypes.toList.any (Try.prog.ifacesRec ·))) = true := by kernel_rfl
theorem fact21 : ((Rows.fnExcerptTermsOfOneTermIsExcerptRow.loopsOut == Try.f9.resultTypes.toList.any (Try.prog.loopsFrom ·))) = true := by kernel_rfl
theorem fact22 : ((Rows.fnExcerptTermsOfOneTermIsExcerptRow.plainKeys == Try.prog.plainKeys)) = true := by kernel_rfl
theorem fact23 : (Rows.fnExcerptTermsOfOneTermIsExcerptRow.shortTexts.isNone) = true := by kernel_rfl
theorem fact24 : (Try.prog.stopsHeard) = true := by kernel_rfl
theorem fact25 : (Try.prog.mayEnter) = true := by kernel_rfl
theorem fact26 : ((Rows.fnExcerptTermsOfOneTermIsExcerptRow.lifted == Try.prog.liftsFinal)) = true := by kernel_rfl
theorem fact27 : ((Try.prog.make == some (Rows.fnExcerptTermsOfOneTermIsExcerptRow.make))) = true := by kernel_rfl
theorem fact28 : ((Rows.fnExcerptTermsOfOneTermIsExcerptRow.kinds == (if Rows.fnExcerptTermsOfOneTermIsExcerptRow.domain.isEmpty then [] else Try.f9.params.toList.map fun t => match Try.prog.underlying t with | some (.int k) => some k | _ => none))) = true := by kernel_rfl
theorem fact29 : ((Rows.fnExcerptTermsOfOneTermIsExcerptRow.pinned == Rows.fnExcerptTermsOfOneTermIsExcerptRow.pinnedBy)) = true := by kernel_rfl
theorem fact30 : ((Rows.fnExcerptTermsOfOneTermIsExcerptRow.veiled == (Try.f9.params.toList ++ Rows.fnExcerptTermsOfOneTermIsExcerptSpec.plain.varTypes Try.prog ++ Try.f9.resultTypes.toList).any (Try.prog.veiledRec ·))) = true := by kernel_rfl
theorem fact31 : (Rows.fnExcerptTermsOfOneTermIsExcerptRow.veiledFits Try.prog Try.f9.params.toList (Try.f9.params.toList ++ Rows.fnExcerptTermsOfOneTermIsExcerptSpec.plain.varTypes Try.prog ++ Try.f9.resultTypes.toList)) = true := by kernel_rfl

theorem and_t {a b : Bool} (ha : a = true) (hb : b = true) : (a && b) = true := by rw [ha, hb]; rfl

theorem closed : joinedFacts Try.prog 9 Try.f9 Rows.fnExcerptTermsOfOneTermIsExcerptSpec Rows.fnExcerptTermsOfOneTermIsExcerptRow = true := by
  unfold joinedFacts
  exact and_t (and_t (and_t (and_t (and_t (and_t (and_t (and_t (and_t (and_t (and_t (and_t (and_t (and_t (and_t (and_t (and_t (and_t (and_t (and_t (and_t (and_t (and_t (and_t (and_t (and_t (and_t (and_t (and_t (and_t (and_t fact0 fact1) fact2) fact3) fact4) fact5) fact6) fact7) fact8) fact9) fact10) fact11) fact12) fact13) fact14) fact15) fact16) fact17) fact18) fact19) fact20) fact21) fact22) fact23) fact24) fact25) fact26) fact27) fact28) fact29) fact30) fact31

theorem hfn : Try.prog.funcNamed Rows.fnExcerptTermsOfOneTermIsExcerptRow.func = some 9 := by kernel_rfl
theorem hinst : Try.f9.isInstance Try.prog Rows.fnExcerptTermsOfOneTermIsExcerptRow.origin Rows.fnExcerptTermsOfOneTermIsExcerptRow.targs := of_decide_eq_true (by kernel_rfl)
theorem hwrap : Try.f9.isWrapper Try.prog Rows.fnExcerptTermsOfOneTermIsExcerptRow.wrapper Rows.fnExcerptTermsOfOneTermIsExcerptRow.mainSum := by
  unfold Func.isWrapper; first | (rw [if_pos (by decide +kernel)]; kernel_rfl) | (rw [if_neg (by decide +kernel)]; exact ⟨rfl, rfl⟩)
end Go.Proofs.Qxb6602355a.fnExcerptTermsOfOneTermIsExcerpt
