/-
  Seat b6602261a. THE ROW's CLOSED FACTS, one theorem each (together they outgrow the kernel's memory lid), and joined.
-/
import Derived.Test.Qxb6602261aRows
import Derived.ProofKit
namespace Go.Proofs.Qxb6602261a
theorem fact0 : (Rows.fnGatheringStrayPartClosesRow.wf (OpenSpec.ofChange Rows.fnGatheringStrayPartClosesSpec)) = true := by kernel_rfl
theorem fact1 : (laidOutB Try.prog) = true := by kernel_rfl
theorem fact2 : (mapsRowed Try.prog) = true := by kernel_rfl
theorem fact3 : (Try.f11.params.all (Try.prog.readableRec ·)) = true := by kernel_rfl
theorem fact4 : (namedTie Try.prog Rows.fnGatheringStrayPartClosesRow.named Rows.fnGatheringStrayPartClosesSpec.vars) = true := by kernel_rfl
theorem fact5 : ((Rows.fnGatheringStrayPartClosesRow.stops == [])) = true := by kernel_rfl
theorem fact6 : ((Try.prog.stops == [])) = true := by kernel_rfl
theorem fact7 : ((Rows.fnGatheringStrayPartClosesRow.knobs == [])) = true := by kernel_rfl
theorem fact8 : ((Try.prog.stopKnobs == [])) = true := by kernel_rfl
theorem fact9 : ((Rows.fnGatheringStrayPartClosesRow.inPlace == Try.prog.inPlace 11)) = true := by kernel_rfl
theorem fact10 : ((Rows.fnGatheringStrayPartClosesRow.unfollowed == Try.prog.unfollowed 11)) = true := by kernel_rfl
theorem fact11 : ((Rows.fnGatheringStrayPartClosesRow.recurses == Try.prog.recurses 11)) = true := by kernel_rfl
theorem fact12 : ((Rows.fnGatheringStrayPartClosesRow.named == Try.prog.varsNamed 11)) = true := by kernel_rfl
theorem fact13 : ((Rows.fnGatheringStrayPartClosesRow.maps == (Try.f11.params.toList ++ Rows.fnGatheringStrayPartClosesSpec.plain.varTypes Try.prog).any (Try.prog.mapsRec ·))) = true := by kernel_rfl
theorem fact14 : ((Rows.fnGatheringStrayPartClosesRow.ifaces == (Try.f11.params.toList ++ Rows.fnGatheringStrayPartClosesSpec.plain.varTypes Try.prog).any (Try.prog.ifacesRec ·))) = true := by kernel_rfl
theorem fact15 : ((Rows.fnGatheringStrayPartClosesRow.mapsOut == Try.prog.mapsAmong Try.f11.resultTypes.toList)) = true := by kernel_rfl
theorem fact16 : ((Rows.fnGatheringStrayPartClosesRow.loops == (Try.f11.params.toList ++ Rows.fnGatheringStrayPartClosesSpec.plain.varTypes Try.prog).any (Try.prog.loopsFrom ·))) = true := by kernel_rfl
theorem fact17 : ((Rows.fnGatheringStrayPartClosesRow.wideKeys == (Try.f11.params.toList ++ Rows.fnGatheringStrayPartClosesSpec.plain.varTypes Try.prog ++ Try.f11.resultTypes.toList).any (Try.prog.wideKeysFrom ·))) = true := by kernel_rfl
theorem fact18 : (Rows.fnGatheringStrayPartClosesSpec.vars.all (Try.prog.varReadable ·)) = true := by kernel_rfl
theorem fact19 : (Try.f11.resultTypes.all (fun t => Try.prog.readableRec t && decide (t < Try.prog.types.size))) = true := by kernel_rfl
theorem fact20 : ((Rows.fnGatheringStrayPartClosesRow.ifacesOut == Try.f11.resultTypes.toList.any (Try.prog.ifacesRec ·))) = true := by kernel_rfl
theorem fact21 : ((Rows.fnGatheringStrayPartClosesRow.loopsOut == Try.f11.resultTypes.toList.any (Try.prog.loopsFrom ·))) = true := by kernel_rfl
theorem fact22 : ((Rows.fnGatheringStrayPartClosesRow.plainKeys == Try.prog.plainKeys)) = true := by kernel_rfl
theorem fact23 : (Rows.fnGatheringStrayPartClosesRow.shortTexts.isNone) = true := by kernel_rfl
theorem fact24 : (Try.prog.stopsHeard) = true := by kernel_rfl
theorem fact25 : (Try.prog.mayEnter) = true := by kernel_rfl
theorem fact26 : ((Rows.fnGatheringStrayPartClosesRow.lifted == Try.prog.liftsFinal)) = true := by kernel_rfl
theorem fact27 : ((Try.prog.make == some (Rows.fnGatheringStrayPartClosesRow.make))) = true := by kernel_rfl
theorem fact28 : ((Rows.fnGatheringStrayPartClosesRow.kinds == (if Rows.fnGatheringStrayPartClosesRow.domain.isEmpty then [] else Try.f11.params.toList.map fun t => match Try.prog.underlying t with | some (.int k) => some k | _ => none))) = true := by kernel_rfl
theorem fact29 : ((Rows.fnGatheringStrayPartClosesRow.pinned == Rows.fnGatheringStrayPartClosesRow.pinnedBy)) = true := by kernel_rfl
theorem fact30 : ((Rows.fnGatheringStrayPartClosesRow.veiled == (Try.f11.params.toList ++ Rows.fnGatheringStrayPartClosesSpec.plain.varTypes Try.prog ++ Try.f11.resultTypes.toList).any (Try.prog.veiledRec ·))) = true := by kernel_rfl
theorem fact31 : (Rows.fnGatheringStrayPartClosesRow.veiledFits Try.prog Try.f11.params.toList (Try.f11.params.toList ++ Rows.fnGatheringStrayPartClosesSpec.plain.varTypes Try.prog ++ Try.f11.resultTypes.toList)) = true := by kernel_rfl

theorem and_t {a b : Bool} (ha : a = true) (hb : b = true) : (a && b) = true := by rw [ha, hb]; rfl

theorem closed : joinedFacts Try.prog 11 Try.f11 Rows.fnGatheringStrayPartClosesSpec Rows.fnGatheringStrayPartClosesRow = true := by
  unfold joinedFacts
  exact and_t (and_t (and_t (and_t (and_t (and_t (and_t (and_t (and_t (and_t (and_t (and_t (and_t (and_t (and_t (and_t (and_t (and_t (and_t (and_t (and_t (and_t (and_t (and_t (and_t (and_t (and_t (and_t (and_t (and_t (and_t fact0 fact1) fact2) fact3) fact4) fact5) fact6) fact7) fact8) fact9) fact10) fact11) fact12) fact13) fact14) fact15) fact16) fact17) fact18) fact19) fact20) fact21) fact22) fact23) fact24) fact25) fact26) fact27) fact28) fact29) fact30) fact31

theorem hfn : Try.prog.funcNamed Rows.fnGatheringStrayPartClosesRow.func = some 11 := by kernel_rfl
theorem hinst : Try.f11.isInstance Try.prog Rows.fnGatheringStrayPartClosesRow.origin Rows.fnGatheringStrayPartClosesRow.targs := of_decide_eq_true (by kernel_rfl)
theorem hwrap : Try.f11.isWrapper Try.prog Rows.fnGatheringStrayPartClosesRow.wrapper Rows.fnGatheringStrayPartClosesRow.mainSum := by
  unfold Func.isWrapper; first | (rw [if_pos (by decide +kernel)]; kernel_rfl) | (rw [if_neg (by decide +kernel)]; exact ⟨rfl, rfl⟩)
end Go.Proofs.Qxb6602261a
