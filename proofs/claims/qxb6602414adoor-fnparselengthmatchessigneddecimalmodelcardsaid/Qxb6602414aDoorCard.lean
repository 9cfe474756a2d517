/-
  Seat b6602414aD. THE STATEMENT 'Rows.FnParseLengthMatchesSignedDecimalModelCardSaid', PROVED: the tied card round the row.
-/
import Derived.Test.Qxb6602414aDoorRow
import Derived.Test.Qxb6602414aDoorTie
import Derived.Test.Qxb6602414aDoorCards
import Derived.SevenTiedAt
namespace Go.Proofs.Qxb6602414aDoor
open Go

theorem wfText : Rows.fnParseLengthMatchesSignedDecimalModelRow.wfByText (OpenSpec.ofChange Rows.fnParseLengthMatchesSignedDecimalModelSpec) = true := by kernel_rfl
theorem mainIs : Tryd.pinned.checked.prog.mainIs = some (true, "f397bb00dc6b37f6b8fd70c8c1ce9c888488db78adad240adfaba720a78829bf".toList) := by kernel_rfl
theorem looksNone : true = Tryd.pinned.checked.prog.looks [] := by kernel_rfl
theorem noStand : ([22].all fun u => !Tryd.prog.wantsStandIn u) = true := by kernel_rfl
theorem goesNot : false = Rows.fnParseLengthMatchesSignedDecimalModelRow.goesBy Tryd.pinned.checked.prog := by kernel_rfl

/-- THE STATEMENT. -/
theorem proved : Rows.FnParseLengthMatchesSignedDecimalModelCardSaid :=
  Claim7.holds_tied_plain_at .later [] [.data, .data, .data, .sentinel, .sentinel] true (true, "f397bb00dc6b37f6b8fd70c8c1ce9c888488db78adad240adfaba720a78829bf") true
    over (fun _ h => by cases h) wfText (fun _ h => by cases h) fnParseLengthMatchesSignedDecimalModel_row_tie rfl ⟨rfl, rfl⟩ mainIs rfl
    (fun f fn hf hf5 => by
      obtain rfl : f = 5 := Option.some.inj (hfn.symm.trans hf) |>.symm
      obtain rfl : fn = Tryd.f5 := (Option.some.inj (Tryd.func5.symm.trans hf5)).symm
      exact ⟨looksNone, fun j t ht => by
        rw [Tryd.params5] at ht
        have hm : t ∈ [22] := by simpa using Array.mem_of_getElem? ht
        exact (show Tryd.prog.wantsStandIn t = false by simpa using List.all_eq_true.1 noStand t hm)⟩)
    goesNot
end Go.Proofs.Qxb6602414aDoor
