/-
  THE CLOSED FACTS OF THE ROW 'Rows.fnExcerptTermsMatchesTermModelRow', one theorem each (together they outgrow the kernel's memory lid), and joined.
-/
import Derived.Test.Qxb6602355aRows
import Derived.ProofKit
namespace Go.Proofs.Qxb6602355a.fnExcerptTermsMatchesTermModel
theorem fact0 : (Rows.fnExcerptTermsMatchesTermModelRow.wf (OpenSpec.ofChange Rows.fnExcerptTermsMatchesTermModelSpec)) = true := by kernel_rfl
theorem fact1 : (laidOutB Try.prog) = true := by kernel_rfl
theorem fact2 : (mapsRowed Try.prog) = true := by kernel_rfl
theorem fact3 : (Try.f8.params.all (Try.prog.readableRec ·)) = true := by kernel_rfl
theorem fact4 : (namedTie Try.prog Rows.fnExcerptTermsMatchesTermModelRow.named Rows.fnExcerptTermsMatchesTermModelSpec.vars) = true := by kernel_rfl
theorem fact5 : ((Rows.fnExcerptTermsMatchesTermModelRow.stops == [])) = true := by kernel_rfl
theorem fact6 : ((Try.prog.stops == [])) = true := by kernel_rfl
theorem fact7 : ((Rows.fnExcerptTermsMatchesTermModelRow.knobs == [])) = true := by kernel_rfl
theorem fact8 : ((Try.prog.stopKnobs == [])) = true := by kernel_rfl
theorem fact9 : ((Rows.fnExcerptTermsMatchesTermModelRow.inPlace == Try.prog.inPlace 8)) = true := by kernel_rfl
theorem fact10 : ((Rows.fnExcerptTermsMatchesTermModelRow.unfollowed == Try.prog.unfollowed 8)) = true := by kernel_rfl
theorem fact11 : ((Rows.fnExcerptTermsMatchesTermModelRow.recurses == Try.prog.recurses 8)) = true := by kernel_rfl
theorem fact12 : ((Rows.fnExcerptTermsMatchesTermModelRow.named == Try.prog.varsNamed 8)) = true := by kernel_rfl
theorem fact13 : ((Rows.fnExcerptTermsMatchesTermModelRow.maps == (Try.f8.params.toList ++ Rows.fnExcerptTermsMatchesTermModelSpec.plain.varTypes Try.prog).any (Try.prog.mapsRec ·))) = true := by kernel_rfl
theorem fact14 : ((Rows.fnExcerptTermsMatchesTermModelRow.ifaces == (Try.f8.params.toList ++ Rows.fnExcerptTermsMatchesTermModelSpec.plain.varTypes Try.prog).any (Try.prog.ifacesRec ·))) = true := by kernel_rfl
theorem fact15 : ((Rows.fnExcerptTermsMatchesTermModelRow.mapsOut == Try.prog.mapsAmong Try.f8.resultTypes.toList)) = true := by kernel_rfl
theorem fact16 : ((Rows.fnExcerptTermsMatchesTermModelRow.loops == (Try.f8.params.toList ++ Rows.fnExcerptTermsMatchesTermModelSpec.plain.varTypes Try.prog).any (Try.prog.loopsFrom ·))) = true := by kernel_rfl
theorem fact17 : ((Rows.fnExcerptTermsMatchesTermModelRow.wideKeys == (Try.f8.params.toList ++ Rows.fnExcerptTermsMatchesTermModelSpec.plain.varTypes Try.prog ++ Try.f8.resultTypes.toList).any (Try.prog.wideKeysFrom ·))) = true := by kernel_rfl
theorem fact18 : (Rows.fnExcerptTermsMatchesTermModelSpec.vars.all (Try.prog.varReadable ·)) = true := by kernel_rfl
theorem fact19 : (Try.f8.resultTypes.all (fun t => Try.prog.readableRec t && decide (t < Try.prog.types.size))) = true := by kernel_rfl
theorem fact20 : ((Rows.fnExcerptTermsMatchesTermModelRow.ifacesOut == Try.f8.resultTypes.toList.any (Try.prog.ifacesRec ·))) = true := by kernel_rfl
theorem fact21 : ((Rows.fnExcerptTermsMatchesTermModelRow.loopsOut == Try.f8.resultTypes.toList.any (Try.prog.loopsFrom ·))) = true := by kernel_rfl
theorem fact22 : ((Rows.fnExcerptTermsMatchesTermModelRow.plainKeys == Try.prog.plainKeys)) = true := by kernel_rfl
theorem fact23 : (Rows.fnExcerptTermsMatchesTermModelRow.shortTexts.isNone) = true := by kernel_rfl
theorem fact24 : (Try.prog.stopsHeard) = true := by kernel_rfl
theorem fact25 : (Try.prog.mayEnter) = true := by kernel_rfl
theorem fact26 : ((Rows.fnExcerptTermsMatchesTermModelRow.lifted == Try.prog.liftsFinal)) = true := by kernel_rfl
theorem fact27 : ((Try.prog.make == some (Rows.fnExcerptTermsMatchesTermModelRow.make))) = true := by kernel_rfl
theorem fact28 : ((Rows.fnExcerptTermsMatchesTermModelRow.kinds == (if Rows.fnExcerptTermsMatchesTermModelRow.domain.isEmpty then [] else Try.f8.params.toList.map fun t => match Try.prog.underlying t with | some (.int k) => some k | _ => none))) = true := by kernel_rfl
theorem fact29 : ((Rows.fnExcerptTermsMatchesTermModelRow.pinned == Rows.fnExcerptTermsMatchesTermModelRow.pinnedBy)) = true := by kernel_rfl
theorem fact30 : ((Rows.fnExcerptTermsMatchesTermModelRow.veiled == (Try.f8.params.toList ++ Rows.fnExcerptTermsMatchesTermModelSpec.plain.varTypes Try.prog ++ Try.f8.resultTypes.toList).any (Try.prog.veiledRec ·))) = true := by kernel_rfl
theorem fact31 : (Rows.fnExcerptTermsMatchesTermModelRow.veiledFits Try.prog Try.f8.params.toList (Try.f8.params.toList ++ Rows.fnExcerptTermsMatchesTermModelSpec.plain.varTypes Try.prog ++ Try.f8.resultTypes.toList)) = true := by kernel_rfl

theorem and_t {a b : Bool} (ha : a = true) (hb : b = true) : (a && b) = true := by rw [ha, hb]; rfl

theorem closed : joinedFacts Try.prog 8 Try.f8 Rows.fnExcerptTermsMatchesTermModelSpec Rows.fnExcerptTermsMatchesTermModelRow = true := by
  unfold joinedFacts
  exact and_t (and_t (and_t (and_t (and_t (and_t (and_t (and_t (and_t (and_t (and_t (and_t (and_t (and_t (and_t (and_t (and_t (and_t (and_t (and_t (and_t (and_t (and_t (and_t (and_t (and_t (and_t (and_t (and_t (and_t (and_t fact0 fact1) fact2) fact3) fact4) fact5) fact6) fact7) fact8) fact9) fact10) fact11) fact12) fact13) fact14) fact15) fact16) fact17) fact18) fact19) fact20) fact21) fact22) fact23) fact24) fact25) fact26) fact27) fact28) fact29) fact30) fact31

theorem hfn : Try.prog.funcNamed Rows.fnExcerptTermsMatchesTermModelRow.func = some 8 := by kernel_rfl
theorem hinst : Try.f8.isInstance Try.prog Rows.fnExcerptTermsMatchesTermModelRow.origin Rows.fnExcerptTermsMatchesTermModelRow.targs := of_decide_eq_true (by kernel_rfl)
theorem hwrap : Try.f8.isWrapper Try.prog Rows.fnExcerptTermsMatchesTermModelRow.wrapper Rows.fnExcerptTermsMatchesTermModelRow.mainSum := by
  unfold Func.isWrapper; first | (rw [if_pos (by decide +kernel)]; kernel_rfl) | (rw [if_neg (by decide +kernel)]; exact ⟨rfl, rfl⟩)
end Go.Proofs.Qxb6602355a.fnExcerptTermsMatchesTermModel
