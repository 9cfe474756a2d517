/-
  Seat b6602414aD. 'strconv.Atoi' at every string, by the guide's contracts, in one ending: the number and whether the error is nil.
-/
import Derived.Test.Qxb6602414aDoorPlain
import Derived.Test.Qxb6602414aDoorShelf
import Derived.WalkKit
namespace Go.Proofs.Qxb6602414aDoor
open Go.RowKit

/-- How the call of Atoi ends. -/
def AtoiEnd (s : ByteArray) (w : World) (e : Ending) (w' : World) : Prop :=
  ∃ er, e = .returned (.tuple #[.int .i64 (pend s.data.toList).1, er]) ∧ ((er = .nilIface ∧ (pend s.data.toList).2 = true) ∨ ((∃ t a, er = .iface t (.pointer (some a))) ∧ (pend s.data.toList).2 = false)) ∧ Below w.heap.size w w'

/-- A cell that holds an error value, nil or not. -/
def ErrCell (w : World) (b : Nat) : Prop := ∃ ev, w.cell? ⟨b, 0, none⟩ = some ev ∧ (ev = .nilIface ∨ ∃ te pe, ev = .iface te pe)

theorem ErrCell.below {B : Nat} {w w' : World} {b : Nat} (h : ErrCell w b) (hb : Below B w w') (hB : b < B) : ErrCell w' b := by
  obtain ⟨ev, h1, h2⟩ := h
  exact ⟨ev, (hb.cell (p := ⟨b, 0, none⟩) hB).trans h1, h2⟩

theorem atoi_any (s : ByteArray) (w : World) (hs : s.size ≤ 1048576) (h0 : ErrCell w 0) (h1 : ErrCell w 1) :
    Calls Tryd.prog 25 #[.string s] w fun e w' => AtoiEnd s w e w' := by
  obtain ⟨e0, c0, k0⟩ := h0
  obtain ⟨e1, c1, k1⟩ := h1
  cases h : Lib.atoiAll s.data.toList with
  | ok v =>
    have hp : pend s.data.toList = (v, true) := by unfold pend; rw [h]
    refine Calls.mono (Any.strconv_Atoi_ok Tryd.laysC172 s (by omega) v h w) ?_
    rintro e w' ⟨rfl, hw⟩
    refine ⟨.nilIface, by rw [hp], .inl ⟨rfl, by rw [hp]⟩, ?_⟩
    rcases hw with rfl | ⟨t, rfl⟩
    · exact Below.refl _ _
    · exact Lib.bytesWorld_below _ _ _
  | range =>
    have hp : pend s.data.toList = (Lib.atoiSat s.data.toList, false) := by unfold pend; rw [h]
    refine Calls.mono (Any.strconv_Atoi_range Tryd.laysC172 s (by omega) h e1 w c1 k1) ?_
    rintro e w' ⟨N, rfl, _, _, hb⟩
    exact ⟨_, by rw [hp], .inr ⟨⟨_, _, rfl⟩, by rw [hp]⟩, hb⟩
  | _ =>
    have hp : pend s.data.toList = (0, false) := by unfold pend; rw [h]
    refine Calls.mono (Any.strconv_Atoi_syntax Tryd.laysC172 s (by omega) h e0 w c0 k0) ?_
    rintro e w' ⟨N, rfl, _, _, hb⟩
    exact ⟨_, by rw [hp], .inr ⟨⟨_, _, rfl⟩, by rw [hp]⟩, hb⟩
end Go.Proofs.Qxb6602414aDoor
