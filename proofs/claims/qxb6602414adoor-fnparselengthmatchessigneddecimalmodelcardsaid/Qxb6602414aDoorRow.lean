/-
  Seat b6602414aD. THE ROW 'Rows.fnParseLengthMatchesSignedDecimalModelRow': the argument opened, the listed sentinels read, the law's walk, the argument read again.
-/
import Derived.Test.Qxb6602414aDoorRows
import Derived.Test.Qxb6602414aDoorLaw
import Derived.Test.Qxb6602414aDoorStart
import Derived.Test.Qxb6602414aDoorFacts
import Derived.ProofKit
import Derived.OpenShut
import Derived.ChangeOld
import Derived.LaidLaws
import Derived.Stop.LaidErr
namespace Go.Proofs.Qxb6602414aDoor
open Go.ChangeShapes Go.WideShapes Go.ChangeAt Go.RowKit

theorem own : ownKnob Tryd.prog.godebug = none := by kernel_rfl
theorem laidOut : laidOutB Tryd.prog = true := by kernel_rfl
theorem cells5 : Tryd.prog.cellsOf 5 = 1 := by kernel_rfl
theorem cells66 : Tryd.prog.cellsOf 66 = 1 := by kernel_rfl
theorem cells9 : Tryd.prog.cellsOf 9 = 1 := by kernel_rfl
theorem gES : Tryd.prog.globalNamed "strconv.ErrSyntax" = some 0 := by kernel_rfl
theorem gESType : (Tryd.prog.globals[0]?).map (·.type) = some 42 := by kernel_rfl
theorem gER : Tryd.prog.globalNamed "strconv.ErrRange" = some 1 := by kernel_rfl
theorem gERType : (Tryd.prog.globals[1]?).map (·.type) = some 42 := by kernel_rfl
/-- The name of the type that an interface's datum bears. -/
def nameOf : DataW Unit → String
  | .iface n _ => n
  | _ => ""
/-- The one type of that name. -/
theorem row64 (u : TypeId) (h : Tryd.prog.typeName? 3 u = some (nameOf Rows.laid_strconv_ErrRange)) : u = 64 :=
  typeName_ptr_named (nm := "errors.errorString") (by kernel_rfl) (by kernel_rfl) (by decide) u (h.trans (congrArg some (by decide)))

/-- What the row's cell 'laid' gives the walk: the two sentinels' cells. -/
theorem errs_of {W : World} (hL : laidMet Tryd.prog Rows.fnParseLengthMatchesSignedDecimalModelRow.laid W) : ErrCell W 0 ∧ ErrCell W 1 := by
  have h3 : laidMet Tryd.prog [("strconv.ErrRange", Rows.laid_strconv_ErrRange), ("strconv.ErrSyntax", Rows.laid_strconv_ErrSyntax)] W := hL.tail.tail.tail
  obtain ⟨a1, s1, hv1, -, -, -⟩ := laid_sentinel h3 gER gERType Tryd.underlying42 row64 Tryd.underlying64 Tryd.underlying66 rfl rfl Tryd.underlying9 cells66 cells9
  obtain ⟨a0, s0, hv0, -, -, -⟩ := laid_sentinel h3.tail gES gESType Tryd.underlying42 row64 Tryd.underlying64 Tryd.underlying66 rfl rfl Tryd.underlying9 cells66 cells9
  exact ⟨⟨_, (by have h0 := World.var?_cell gES hv0 0; simpa using h0), Or.inr ⟨_, _, rfl⟩⟩, ⟨_, (by have h0 := World.var?_cell gER hv1 0; simpa using h0), Or.inr ⟨_, _, rfl⟩⟩⟩

theorem at_add {w : World} {a : Addr} {i : Nat} {u v : Value} (h0 : w.cell? (a.add 0) = some u) (h : w.cell? (a.add i) = some v) : ∃ b off, some a = some ⟨b, off, none⟩ ∧ w.cell? ⟨b, off + i, none⟩ = some v := by
  obtain ⟨b, off, spot⟩ := a
  have hspot : spot = none := by simpa [Addr.add] using World.cell?_spot h0
  subst hspot
  exact ⟨b, off, rfl, by rw [← add_plain]; exact h⟩

section
variable {H : Type} {enc : TypeId × Value → H} {W : World}

theorem wf_u8 {z : Int} (h : (Lit.int .u8 z).wf = true) : 0 ≤ z ∧ z ≤ 255 := bounds_u8 h

/-- The argument: its length fits; where it is not empty, it is a row of bytes. -/
theorem row_arg {a : Option Addr} {n c : Nat} {d : DataW H} {p : List MemPlace} (h : DataW.Trod enc Tryd.prog W 0 (fun _ => true) true 22 (.slice a n c) d p) :
    n ≤ maxLen ∧ (1 ≤ n → ∃ b off l, a = some ⟨b, off, none⟩ ∧ l.length = n ∧ ByteRow W b off l) := by
  obtain ⟨fuel, hf⟩ := h
  rcases open_ints Tryd.underlying22 Tryd.underlying5 cells5 hf with ⟨hcs, _⟩ | ⟨x, l, cp, zs, hcs, _, hl, hm, hz, _, hcell, hwf⟩
  · simp [Value.cells] at hcs
    obtain ⟨rfl, rfl, rfl⟩ := hcs
    exact ⟨Nat.zero_le _, fun h => by omega⟩
  · simp [Value.cells] at hcs
    obtain ⟨rfl, rfl, rfl⟩ := hcs
    simp at hz
    refine ⟨by omega, fun hp => ?_⟩
    obtain ⟨b, off, rfl, hc⟩ := ints_at hcell (by omega)
    refine ⟨b, off, (zs.take n).map (fun z => UInt8.ofNat z.toNat), rfl, by simp; omega, fun i hi => ?_⟩
    have hin : i < n := by simpa using Nat.lt_of_lt_of_le hi (by simp; omega)
    have hiz : i < zs.length := by omega
    rw [hc i hiz]
    have bd := wf_u8 (hwf zs[i] (List.getElem_mem hiz))
    have e : ((zs.take n).map (fun z => UInt8.ofNat z.toNat)).getD i 0 = UInt8.ofNat zs[i].toNat := by
      simp [List.getD, hin, hiz]
    have e2 : zs.getD i 0 = zs[i] := by simp [List.getD, hiz]
    rw [e, e2]
    have e3 : (UInt8.ofNat zs[i].toNat).toNat = zs[i].toNat := by
      rw [UInt8.toNat_ofNat']; exact Nat.mod_eq_of_lt (by omega)
    rw [e3, Int.toNat_of_nonneg bd.1]
end

set_option maxRecDepth 100000 in
theorem lifted (os : Os) (started : os.Started) (H : Type) (enc : TypeId × Value → H) :
    ReturnsInHanded {} Tryd.checked os 5 .any (fun w args => (Rows.fnParseLengthMatchesSignedDecimalModelSpec.pre enc Tryd.prog Tryd.f5 Rows.fnParseLengthMatchesSignedDecimalModelRow.domain false w args ∧ laidMet Tryd.prog Rows.fnParseLengthMatchesSignedDecimalModelRow.laid w) ∧ sizedMet enc Tryd.prog Tryd.f5 (OpenSpec.ofChange Rows.fnParseLengthMatchesSignedDecimalModelSpec) false w args)
      (Rows.fnParseLengthMatchesSignedDecimalModelSpec.post enc Tryd.prog Tryd.f5 false true false false) := by
  refine returnsInHanded_of_change_and (C := Tryd.checked) (X := fun w _ => laidMet Tryd.prog Rows.fnParseLengthMatchesSignedDecimalModelRow.laid w) (fun _ _ _ hh h => h.of_heap hh) own started (by kernel_rfl) Tryd.func5
    (ChangeSpec.witness_at (enc := enc) (C := Tryd.checked) (os := os) (X := fun w _ => laidMet Tryd.prog Rows.fnParseLengthMatchesSignedDecimalModelRow.laid w) false (laidOver Tryd.prog os) #[.slice none 0 0] 8 rfl (by kernel_rfl) (by kernel_rfl) (by kernel_rfl) (by kernel_rfl) (by kernel_rfl) (laidWorld_met os _)) ?_
  intro W base args ds gs before hval0 hW _ _ hL _
  have hval : ∀ (j : Nat) t v, Tryd.f5.params[j]? = some t → args[j]? = some v → Value.okWide Tryd.prog W .any base t v := hval0
  have hW' := hW
  obtain ⟨p, q, hA0, hV, rfl, hfz, hnd⟩ := hW
  have hA : DataW.TrodAll enc Tryd.prog W 0 (fun _ => true) true Tryd.f5.params.toList args.toList ds p := hA0
  rw [Tryd.params5] at hA hval
  obtain ⟨v0, vs0, d0, ds0, p0, q0, hargs, rfl, rfl, h0, r0⟩ := trodAll_cons hA
  obtain ⟨rfl, rfl, rfl⟩ := trodAll_nil r0
  obtain rfl : args = #[v0] := by cases args; simp_all
  obtain ⟨rfl, rfl⟩ := trodVars_none hV
  obtain ⟨a, n, c, rfl⟩ := okWide_slice Tryd.underlying22 (hval 0 22 v0 rfl rfl)
  have lt0 : ∀ x ∈ p0, x.block < W.heap.size := by obtain ⟨m, hm⟩ := h0; exact DataW.trod_lt m _ _ _ hm
  obtain ⟨hn, hrow⟩ := row_arg h0
  clear hA0 hval0
  obtain ⟨e0, e1⟩ := errs_of hL
  have hmax : (n : Int) ≤ 9223372036854775807 := by
    have : maxLen ≤ 9223372036854775807 := by decide
    omega
  have walk : Calls Tryd.prog 5 #[.slice a n c] W fun e w' => e = .returned (.bool true) ∧ Below W.heap.size W w' := by
    by_cases hlong : 1048576 < n
    · refine (law_long a n c W hmax hlong).mono ?_
      rintro e w' ⟨he, rfl⟩
      exact ⟨he, Below.refl _ _⟩
    · by_cases h1 : 1 ≤ n
      · obtain ⟨b, off, l, rfl, hl, hr⟩ := hrow h1
        have hb2 : 2 ≤ W.heap.size := by
          obtain ⟨ev, hc, _⟩ := e1
          have hlt : 1 < W.heap.size := by simpa using block_lt_of_cell hc
          omega
        exact law_row b off n c l W hr hl h1 (by omega) e0 e1 hb2
      · obtain rfl : n = 0 := by omega
        refine (law_empty a c W).mono ?_
        rintro e w' ⟨he, rfl⟩
        exact ⟨he, Below.refl _ _⟩
  refine walk.mono fun e W' ⟨he, bel⟩ => ?_
  subst he
  exact ⟨_, rfl, _, _, _, [], _, [], hW', trodAll_mk1 (shut_bool Tryd.underlying4 _),
    (trodAll_cons_mk (Below.trod laidOut (by kernel_rfl) (of_decide_eq_true (by kernel_rfl)) h0 bel lt0) trodAll_mk0), rfl, bel.frame _, fun h => by cases h⟩

theorem over : Rows.FnParseLengthMatchesSignedDecimalModelSaid :=
  OpenClaim.holds_of_wide 5 Tryd.f5 rfl rfl rfl rfl rfl rfl rfl ⟨rfl, rfl, rfl, rfl, rfl⟩ rfl rfl rfl rfl rfl hfn Tryd.func5 closed hinst hwrap
    (fun os started H enc _ => lifted os started H enc)
end Go.Proofs.Qxb6602414aDoor
