/-
  THE CLOSED FACTS OF THE ROW 'Rows.fnExcerptTermsSplitsAtAQuoteFreeSpaceRow', one theorem each (together they outgrow the kernel's memory lid), and joined.
-/
import Derived.Test.Qxb6602355aRows
import Derived.ProofKit
namespace Go.Proofs.Qxb6602355a.fnExcerptTermsSplitsAtAQuoteFreeSpace
theorem fact0 : (Rows.fnExcerptTermsSplitsAtAQuoteFreeSpaceRow.wf (OpenSpec.ofChange Rows.fnExcerptTermsSplitsAtAQuoteFreeSpaceSpec)) = true := by kernel_rfl
theorem fact1 : (laidOutB Try.prog) = true := by kernel_rfl
theorem fact2 : (mapsRowed Try.prog) = true := by kernel_rfl
theorem fact3 : (Try.f10.params.all (Try.prog.readableRec ·)) = true := by kernel_rfl
theorem fact4 : (namedTie Try.prog Rows.fnExcerptTermsSplitsAtAQuoteFreeSpaceRow.named Rows.fnExcerptTermsSplitsAtAQuoteFreeSpaceSpec.vars) = true := by kernel_rfl
theorem fact5 : ((Rows.fnExcerptTermsSplitsAtAQuoteFreeSpaceRow.stops == [])) = true := by kernel_rfl
theorem fact6 : ((Try.prog.stops == [])) = true := by kernel_rfl
theorem fact7 : ((Rows.fnExcerptTermsSplitsAtAQuoteFreeSpaceRow.knobs == [])) = true := by kernel_rfl
theorem fact8 : ((Try.prog.stopKnobs == [])) = true := by kernel_rfl
theorem fact9 : ((Rows.fnExcerptTermsSplitsAtAQuoteFreeSpaceRow.inPlace == Try.prog.inPlace 10)) = true := by kernel_rfl
theorem fact10 : ((Rows.fnExcerptTermsSplitsAtAQuoteFreeSpaceRow.unfollowed == Try.prog.unfollowed 10)) = true := by kernel_rfl
theorem fact11 : ((Rows.fnExcerptTermsSplitsAtAQuoteFreeSpaceRow.recurses == Try.prog.recurses 10)) = true := by kernel_rfl
theorem fact12 : ((Rows.fnExcerptTermsSplitsAtAQuoteFreeSpaceRow.named == Try.prog.varsNamed 10)) = true := by kernel_rfl
theorem fact13 : ((Rows.fnExcerptTermsSplitsAtAQuoteFreeSpaceRow.maps == (Try.f10.params.toList ++ Rows.fnExcerptTermsSplitsAtAQuoteFreeSpaceSpec.plain.varTypes Try.prog).any (Try.prog.mapsRec ·))) = true := by kernel_rfl
theorem fact14 : ((Rows.fnExcerptTermsSplitsAtAQuoteFreeSpaceRow.ifaces == (Try.f10.params.toList ++ Rows.fnExcerptTermsSplitsAtAQuoteFreeSpaceSpec.plain.varTypes Try.prog).any (Try.prog.ifacesRec ·))) = true := by kernel_rfl
theorem fact15 : ((Rows.fnExcerptTermsSplitsAtAQuoteFreeSpaceRow.mapsOut == Try.prog.mapsAmong Try.f10.resultTypes.toList)) = true := by kernel_rfl
theorem fact16 : ((Rows.fnExcerptTermsSplitsAtAQuoteFreeSpaceRow.loops == (Try.f10.params.toList ++ Rows.fnExcerptTermsSplitsAtAQuoteFreeSpaceSpec.plain.varTypes Try.prog).any (Try.prog.loopsFrom ·))) = true := by kernel_rfl
theorem fact17 : ((Rows.fnExcerptTermsSplitsAtAQuoteFreeSpaceRow.wideKeys == (Try.f10.params.toList ++ Rows.fnExcerptTermsSplitsAtAQuoteFreeSpaceSpec.plain.varTypes Try.prog ++ Try.f10.resultTypes.toList).any (Try.prog.wideKeysFrom ·))) = true := by kernel_rfl
theorem fact18 : (Rows.fnExcerptTermsSplitsAtAQuoteFreeSpaceSpec.vars.all (Try.prog.varReadable ·)) = true := by kernel_rfl
theorem fact19 : (Try.f10.resultTypes.all (fun t => Try.prog.readableRec t && decide (t < Try.prog.types.size))) = true := by kernel_rfl
theorem fact20 : ((Rows.fnExcerptTermsSplitsAtAQuoteFreeSpaceRow.ifacesOut == Try.f10.resultTypes.toList.any (Try.prog.ifacesRec ·))) = true := by kernel_rfl
theorem fact21 : ((Rows.fnExcerptTermsSplitsAtAQuoteFreeSpaceRow.loopsOut == Try.f10.resultTypes.toList.any (Try.prog.loopsFrom ·))) = true := by kernel_rfl
theorem fact22 : ((Rows.fnExcerptTermsSplitsAtAQuoteFreeSpaceRow.plainKeys == Try.prog.plainKeys)) = true := by kernel_rfl
theorem fact23 : (Rows.fnExcerptTermsSplitsAtAQuoteFreeSpaceRow.shortTexts.isNone) = true := by kernel_rfl
theorem fact24 : (Try.prog.stopsHeard) = true := by kernel_rfl
theorem fact25 : (Try.prog.mayEnter) = true := by kernel_rfl
theorem fact26 : ((Rows.fnExcerptTermsSplitsAtAQuoteFreeSpaceRow.lifted == Try.prog.liftsFinal)) = true := by kernel_rfl
theorem fact27 : ((Try.prog.make == some (Rows.fnExcerptTermsSplitsAtAQuoteFreeSpaceRow.make))) = true := by kernel_rfl
theorem fact28 : ((Rows.fnExcerptTermsSplitsAtAQuoteFreeSpaceRow.kinds == (if Rows.fnExcerptTermsSplitsAtAQuoteFreeSpaceRow.domain.isEmpty then [] else Try.f10.params.toList.map fun t => match Try.prog.underlying t with | some (.int k) => some k | _ => none))) = true := by kernel_rfl
theorem fact29 : ((Rows.fnExcerptTermsSplitsAtAQuoteFreeSpaceRow.pinned == Rows.fnExcerptTermsSplitsAtAQuoteFreeSpaceRow.pinnedBy)) = true := by kernel_rfl
theorem fact30 : ((Rows.fnExcerptTermsSplitsAtAQuoteFreeSpaceRow.veiled == (Try.f10.params.toList ++ Rows.fnExcerptTermsSplitsAtAQuoteFreeSpaceSpec.plain.varTypes Try.prog ++ Try.f10.resultTypes.toList).any (Try.prog.veiledRec ·))) = true := by kernel_rfl
theorem fact31 : (Rows.fnExcerptTermsSplitsAtAQuoteFreeSpaceRow.veiledFits Try.prog Try.f10.params.toList (Try.f10.params.toList ++ Rows.fnExcerptTermsSplitsAtAQuoteFreeSpaceSpec.plain.varTypes Try.prog ++ Try.f10.resultTypes.toList)) = true := by kernel_rfl

theorem and_t {a b : Bool} (ha : a = true) (hb : b = true) : (a && b) = true := by rw [ha, hb]; rfl

theorem closed : joinedFacts Try.prog 10 Try.f10 Rows.fnExcerptTermsSplitsAtAQuoteFreeSpaceSpec Rows.fnExcerptTermsSplitsAtAQuoteFreeSpaceRow = true := by
  unfold joinedFacts
  exact and_t (and_t (and_t (and_t (and_t (and_t (and_t (and_t (and_t (and_t (and_t (and_t (and_t (and_t (and_t (and_t (and_t (and_t (and_t (and_t (and_t (and_t (and_t (and_t (and_t (and_t (and_t (and_t (and_t (and_t (and_t fact0 fact1) fact2) fact3) fact4) fact5) fact6) fact7) fact8) fact9) fact10) fact11) fact12) fact13) fact14) fact15) fact16) fact17) fact18) fact19) fact20) fact21) fact22) fact23) fact24) fact25) fact26) fact27) fact28) fact29) fact30) fact31

theorem hfn : Try.prog.funcNamed Rows.fnExcerptTermsSplitsAtAQuoteFreeSpaceRow.func = some 10 := by kernel_rfl
theorem hinst : Try.f10.isInstance Try.prog Rows.fnExcerptTermsSplitsAtAQuoteFreeSpaceRow.origin Rows.fnExcerptTermsSplitsAtAQuoteFreeSpaceRow.targs := of_decide_eq_true (by kernel_rfl)
theorem hwrap : Try.f10.isWrapper Try.prog Rows.fnExcerptTermsSplitsAtAQuoteFreeSpaceRow.wrapper Rows.fnExcerptTermsSplitsAtAQuoteFreeSpaceRow.mainSum := by
  unfold Func.isWrapper; first | (rw [if_pos (by decide +kernel)]; kernel_rfl) | (rw [if_neg (by decide +kernel)]; exact ⟨rfl, rfl⟩)
end Go.Proofs.Qxb6602355a.fnExcerptTermsSplitsAtAQuoteFreeSpace
