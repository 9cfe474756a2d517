/-
  THE CLOSED FACTS OF THE ROW 'Rows.fnParseLengthMatchesSignedDecimalModelRow', one theorem each (together they outgrow the kernel's memory lid), and joined.
-/
import Derived.Test.Qxb6602414aDoorRows
import Derived.ProofKit
namespace Go.Proofs.Qxb6602414aDoor
theorem fact0 : (Rows.fnParseLengthMatchesSignedDecimalModelRow.wf (OpenSpec.ofChange Rows.fnParseLengthMatchesSignedDecimalModelSpec)) = true := by kernel_rfl
theorem fact1 : (laidOutB Tryd.prog) = true := by kernel_rfl
theorem fact2 : (mapsRowed Tryd.prog) = true := by kernel_rfl
theorem fact3 : (Tryd.f5.params.all (Tryd.prog.readableRec ·)) = true := by kernel_rfl
theorem fact4 : (namedTie Tryd.prog Rows.fnParseLengthMatchesSignedDecimalModelRow.named Rows.fnParseLengthMatchesSignedDecimalModelSpec.vars) = true := by kernel_rfl
theorem fact5 : ((Rows.fnParseLengthMatchesSignedDecimalModelRow.stops == [])) = true := by kernel_rfl
theorem fact6 : ((Tryd.prog.stops == [])) = true := by kernel_rfl
theorem fact7 : ((Rows.fnParseLengthMatchesSignedDecimalModelRow.knobs == [])) = true := by kernel_rfl
theorem fact8 : ((Tryd.prog.stopKnobs == [])) = true := by kernel_rfl
theorem fact9 : ((Rows.fnParseLengthMatchesSignedDecimalModelRow.inPlace == Tryd.prog.inPlace 5)) = true := by kernel_rfl
theorem fact10 : ((Rows.fnParseLengthMatchesSignedDecimalModelRow.unfollowed == Tryd.prog.unfollowed 5)) = true := by kernel_rfl
theorem fact11 : ((Rows.fnParseLengthMatchesSignedDecimalModelRow.recurses == Tryd.prog.recurses 5)) = true := by kernel_rfl
theorem fact12 : ((Rows.fnParseLengthMatchesSignedDecimalModelRow.named == Tryd.prog.varsNamed 5)) = true := by kernel_rfl
theorem fact13 : ((Rows.fnParseLengthMatchesSignedDecimalModelRow.maps == (Tryd.f5.params.toList ++ Rows.fnParseLengthMatchesSignedDecimalModelSpec.plain.varTypes Tryd.prog).any (Tryd.prog.mapsRec ·))) = true := by kernel_rfl
theorem fact14 : ((Rows.fnParseLengthMatchesSignedDecimalModelRow.ifaces == (Tryd.f5.params.toList ++ Rows.fnParseLengthMatchesSignedDecimalModelSpec.plain.varTypes Tryd.prog).any (Tryd.prog.ifacesRec ·))) = true := by kernel_rfl
theorem fact15 : ((Rows.fnParseLengthMatchesSignedDecimalModelRow.mapsOut == Tryd.prog.mapsAmong Tryd.f5.resultTypes.toList)) = true := by kernel_rfl
theorem fact16 : ((Rows.fnParseLengthMatchesSignedDecimalModelRow.loops == (Tryd.f5.params.toList ++ Rows.fnParseLengthMatchesSignedDecimalModelSpec.plain.varTypes Tryd.prog).any (Tryd.prog.loopsFrom ·))) = true := by kernel_rfl
theorem fact17 : ((Rows.fnParseLengthMatchesSignedDecimalModelRow.wideKeys == (Tryd.f5.params.toList ++ Rows.fnParseLengthMatchesSignedDecimalModelSpec.plain.varTypes Tryd.prog ++ Tryd.f5.resultTypes.toList).any (Tryd.prog.wideKeysFrom ·))) = true := by kernel_rfl
theorem fact18 : (Rows.fnParseLengthMatchesSignedDecimalModelSpec.vars.all (Tryd.prog.varReadable ·)) = true := by kernel_rfl
theorem fact19 : (Tryd.f5.resultTypes.all (fun t => Tryd.prog.readableRec t && decide (t < Tryd.prog.types.size))) = true := by kernel_rfl
theorem fact20 : ((Rows.fnParseLengthMatchesSignedDecimalModelRow.ifacesOut == Tryd.f5.resultTypes.toList.any (Tryd.prog.ifacesRec ·))) = true := by kernel_rfl
theorem fact21 : ((Rows.fnParseLengthMatchesSignedDecimalModelRow.loopsOut == Tryd.f5.resultTypes.toList.any (Tryd.prog.loopsFrom ·))) = true := by kernel_rfl
theorem fact22 : ((Rows.fnParseLengthMatchesSignedDecimalModelRow.plainKeys == Tryd.prog.plainKeys)) = true := by kernel_rfl
theorem fact23 : (Rows.fnParseLengthMatchesSignedDecimalModelRow.shortTexts.isNone) = true := by kernel_rfl
theorem fact24 : (Tryd.prog.stopsHeard) = true := by kernel_rfl
theorem fact25 : (Tryd.prog.mayEnter) = true := by kernel_rfl
theorem fact26 : ((Rows.fnParseLengthMatchesSignedDecimalModelRow.lifted == Tryd.prog.liftsFinal)) = true := by kernel_rfl
theorem fact27 : ((Tryd.prog.make == some (Rows.fnParseLengthMatchesSignedDecimalModelRow.make))) = true := by kernel_rfl
theorem fact28 : ((Rows.fnParseLengthMatchesSignedDecimalModelRow.kinds == (if Rows.fnParseLengthMatchesSignedDecimalModelRow.domain.isEmpty then [] else Tryd.f5.params.toList.map fun t => match Tryd.prog.underlying t with | some (.int k) => some k | _ => none))) = true := by kernel_rfl
theorem fact29 : ((Rows.fnParseLengthMatchesSignedDecimalModelRow.pinned == Rows.fnParseLengthMatchesSignedDecimalModelRow.pinnedBy)) = true := by kernel_rfl
theorem fact30 : ((Rows.fnParseLengthMatchesSignedDecimalModelRow.veiled == (Tryd.f5.params.toList ++ Rows.fnParseLengthMatchesSignedDecimalModelSpec.plain.varTypes Tryd.prog ++ Tryd.f5.resultTypes.toList).any (Tryd.prog.veiledRec ·))) = true := by kernel_rfl
theorem fact31 : (Rows.fnParseLengthMatchesSignedDecimalModelRow.veiledFits Tryd.prog Tryd.f5.params.toList (Tryd.f5.params.toList ++ Rows.fnParseLengthMatchesSignedDecimalModelSpec.plain.varTypes Tryd.prog ++ Tryd.f5.resultTypes.toList)) = true := by kernel_rfl

theorem and_t {a b : Bool} (ha : a = true) (hb : b = true) : (a && b) = true := by rw [ha, hb]; rfl

theorem closed : joinedFacts Tryd.prog 5 Tryd.f5 Rows.fnParseLengthMatchesSignedDecimalModelSpec Rows.fnParseLengthMatchesSignedDecimalModelRow = true := by
  unfold joinedFacts
  exact and_t (and_t (and_t (and_t (and_t (and_t (and_t (and_t (and_t (and_t (and_t (and_t (and_t (and_t (and_t (and_t (and_t (and_t (and_t (and_t (and_t (and_t (and_t (and_t (and_t (and_t (and_t (and_t (and_t (and_t (and_t fact0 fact1) fact2) fact3) fact4) fact5) fact6) fact7) fact8) fact9) fact10) fact11) fact12) fact13) fact14) fact15) fact16) fact17) fact18) fact19) fact20) fact21) fact22) fact23) fact24) fact25) fact26) fact27) fact28) fact29) fact30) fact31

theorem hfn : Tryd.prog.funcNamed Rows.fnParseLengthMatchesSignedDecimalModelRow.func = some 5 := by kernel_rfl
theorem hinst : Tryd.f5.isInstance Tryd.prog Rows.fnParseLengthMatchesSignedDecimalModelRow.origin Rows.fnParseLengthMatchesSignedDecimalModelRow.targs := of_decide_eq_true (by kernel_rfl)
theorem hwrap : Tryd.f5.isWrapper Tryd.prog Rows.fnParseLengthMatchesSignedDecimalModelRow.wrapper Rows.fnParseLengthMatchesSignedDecimalModelRow.mainSum := by
  unfold Func.isWrapper; first | (rw [if_pos (by decide +kernel)]; kernel_rfl) | (rw [if_neg (by decide +kernel)]; exact ⟨rfl, rfl⟩)
end Go.Proofs.Qxb6602414aDoor
