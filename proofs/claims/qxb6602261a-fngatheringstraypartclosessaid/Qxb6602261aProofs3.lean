/-
  Seat b6602261a. THE STATEMENT 'Rows.FnGatheringStrayPartClosesSaid', PROVED: the row.
-/
import Derived.Test.Qxb6602261aProofs2
import Derived.Test.Qxb6602261aFacts
namespace Go.Proofs.Qxb6602261a

theorem over : Rows.fnGatheringStrayPartClosesRow.holds Try.pinned (OpenSpec.ofChange Rows.fnGatheringStrayPartClosesSpec) :=
  OpenClaim.holds_of_wide 11 Try.f11 rfl rfl rfl rfl rfl rfl rfl ⟨rfl, rfl, rfl, rfl, rfl⟩ rfl rfl rfl rfl rfl hfn Try.func11 closed hinst hwrap
    (fun os started H enc _ => lifted os started H enc)

/-- THE STATEMENT. -/
theorem proved : Rows.FnGatheringStrayPartClosesSaid := over
end Go.Proofs.Qxb6602261a
