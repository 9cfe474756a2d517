/-
  Seat b6602261a. THE STATEMENT 'Rows.FnGatheringStrayPartClosesSaid', PROVED: the arguments opened, the law's walk, the arguments read again.
-/
import Derived.Test.Qxb6602261aRows
import Derived.Test.Qxb6602261aLaw
import Derived.ProofKit
import Derived.OpenShut
import Derived.ShutString
import Derived.ChangeOld
import Derived.Deep.Strs
namespace Go.Proofs.Qxb6602261a
open Go.ChangeShapes Go.WideShapes Go.ChangeAt Go.RowKit
open Go.ChangeMaps (open_string shut_string)

theorem own : ownKnob Try.prog.godebug = none := by kernel_rfl
theorem laidOut : laidOutB Try.prog = true := by kernel_rfl
theorem cells9 : Try.prog.cellsOf 9 = 1 := by kernel_rfl
theorem cells43 : Try.prog.cellsOf 43 = 1 := by kernel_rfl
theorem cells4 : Try.prog.cellsOf 4 = 1 := by kernel_rfl
theorem cells33 : Try.prog.cellsOf 33 = 1 := by kernel_rfl

/-- Cells behind an address, as the walks read them. -/
theorem at_add {w : World} {a : Addr} {i : Nat} {u v : Value} (h0 : w.cell? (a.add 0) = some u) (h : w.cell? (a.add i) = some v) : ∃ b off, some a = some ⟨b, off, none⟩ ∧ w.cell? ⟨b, off + i, none⟩ = some v := by
  obtain ⟨b, off, spot⟩ := a
  have hspot : spot = none := by simpa [Addr.add] using World.cell?_spot h0
  subst hspot
  exact ⟨b, off, rfl, by rw [← add_plain]; exact h⟩

section
variable {H : Type} {enc : TypeId × Value → H} {W : World}

theorem strs_cells {fuel : Nat} {a : Option Addr} {n c : Nat} {x : DataW H × List MemPlace} (hf : DataW.trod enc Try.prog W 0 (fun _ => true) true fuel 33 [.slice a n c] = some x) :
    ∃ S, StrsAt W a n S ∧ n ≤ maxLen ∧ (a = none → n = 0 ∧ c = 0) := by
  rcases Deep.open_strs Try.underlying33 Try.underlying9 cells9 hf with ⟨hcs, _⟩ | ⟨y, l, cp, m, Sx, hcs, _, hl, hm, hmm, _, hcell⟩
  · simp at hcs
    obtain ⟨rfl, rfl, rfl⟩ := hcs
    exact ⟨fun _ => ByteArray.empty, fun i hi => by omega, Nat.zero_le _, fun _ => ⟨rfl, rfl⟩⟩
  · simp at hcs
    obtain ⟨rfl, rfl, rfl⟩ := hcs
    simp at hmm
    subst hmm
    refine ⟨Sx, fun i hi => ?_, by omega, fun h => by cases h⟩
    obtain ⟨h1, h2⟩ := hcell i (by omega)
    obtain ⟨b, off, e, h⟩ := at_add (hcell 0 (by omega)).1 h1
    exact ⟨b, off, e, h, h2⟩

theorem strs_arg {a : Option Addr} {n c : Nat} {d : DataW H} {p : List MemPlace} (h : DataW.Trod enc Try.prog W 0 (fun _ => true) true 33 (.slice a n c) d p) :
    ∃ S, StrsAt W a n S ∧ n ≤ maxLen ∧ (a = none → n = 0 ∧ c = 0) := by
  obtain ⟨fuel, hf⟩ := h
  exact strs_cells (by simpa [Value.cells] using hf)

theorem ints_arg {a : Option Addr} {n c : Nat} {d : DataW H} {p : List MemPlace} (h : DataW.Trod enc Try.prog W 0 (fun _ => true) true 53 (.slice a n c) d p) :
    ∃ Z : Nat → Int, RowAt W a n (fun i => .int .u64 (Z i)) ∧ n ≤ maxLen ∧ (a = none → n = 0 ∧ c = 0) := by
  obtain ⟨fuel, hf⟩ := h
  rcases open_ints Try.underlying53 Try.underlying43 cells43 hf with ⟨hcs, _⟩ | ⟨x, l, cp, zs, hcs, _, hl, hm, hz, _, hcell, _⟩
  · simp [Value.cells] at hcs
    obtain ⟨rfl, rfl, rfl⟩ := hcs
    exact ⟨fun _ => 0, fun i hi => by omega, Nat.zero_le _, fun _ => ⟨rfl, rfl⟩⟩
  · simp [Value.cells] at hcs
    obtain ⟨rfl, rfl, rfl⟩ := hcs
    simp at hz
    exact ⟨fun i => zs.getD i 0, fun i hi => at_add (hcell 0 (by omega)) (hcell i (by omega)), by omega, fun h => by cases h⟩

theorem bools_arg {a : Option Addr} {n c : Nat} {d : DataW H} {p : List MemPlace} (h : DataW.Trod enc Try.prog W 0 (fun _ => true) true 54 (.slice a n c) d p) :
    ∃ Z : Nat → Bool, RowAt W a n (fun i => .bool (Z i)) ∧ n ≤ maxLen ∧ (a = none → n = 0 ∧ c = 0) := by
  obtain ⟨fuel, hf⟩ := h
  rcases Deep.open_slice1 Try.underlying54 cells4 hf with ⟨hcs, _⟩ | ⟨x, l, cp, m, q, V, D, Pl, hcs, _, hl, hm, hmm, _, hx⟩
  · simp [Value.cells] at hcs
    obtain ⟨rfl, rfl, rfl⟩ := hcs
    exact ⟨fun _ => false, fun i hi => by omega, Nat.zero_le _, fun _ => ⟨rfl, rfl⟩⟩
  · simp [Value.cells] at hcs
    obtain ⟨rfl, rfl, rfl⟩ := hcs
    simp at hmm
    subst hmm
    have each : ∀ i, i < m → ∃ b : Bool, V i = .bool b := fun i hi => by
      obtain ⟨b, h1, _⟩ := DataW.trod_bool Try.underlying4 (hx i hi).2
      exact ⟨b, by simpa using h1⟩
    obtain ⟨Z, hZ⟩ := Deep.choose_lt each
    refine ⟨Z, fun i hi => ?_, by omega, fun h => by cases h⟩
    have e := (hx i (by omega)).1
    rw [hZ i (by omega)] at e
    exact at_add (hx 0 (by omega)).1 e

theorem parts_arg {a : Option Addr} {n c : Nat} {d : DataW H} {p : List MemPlace} (h : DataW.Trod enc Try.prog W 0 (fun _ => true) true 49 (.slice a n c) d p) :
    ∃ (A : Nat → Option Addr) (L C : Nat → Nat) (S : Nat → Nat → ByteArray), PartsAt W a n A L C S ∧ n ≤ maxLen ∧ (a = none → n = 0 ∧ c = 0) ∧ ∀ i, i < n → A i = none → L i = 0 ∧ C i = 0 := by
  obtain ⟨fuel, hf⟩ := h
  rcases Deep.open_slice1 Try.underlying49 cells33 hf with ⟨hcs, _⟩ | ⟨x, l, cp, m, q, V, D, Pl, hcs, _, hl, hm, hmm, _, hx⟩
  · simp [Value.cells] at hcs
    obtain ⟨rfl, rfl, rfl⟩ := hcs
    exact ⟨fun _ => none, fun _ => 0, fun _ => 0, fun _ _ => ByteArray.empty, fun i hi => by omega, Nat.zero_le _, fun _ => ⟨rfl, rfl⟩, fun i hi => by omega⟩
  · simp [Value.cells] at hcs
    obtain ⟨rfl, rfl, rfl⟩ := hcs
    simp at hmm
    subst hmm
    have each : ∀ i, i < m → ∃ t : Option Addr × Nat × Nat × (Nat → ByteArray), V i = .slice t.1 t.2.1 t.2.2.1 ∧ StrsAt W t.1 t.2.1 t.2.2.2 ∧ t.2.1 ≤ maxLen ∧ (t.1 = none → t.2.1 = 0 ∧ t.2.2.1 = 0) := fun i hi => by
      have h1 := (hx i hi).2
      have hv : ∃ A L C, V i = .slice A L C := by
        rcases Deep.open_strs Try.underlying33 Try.underlying9 cells9 h1 with ⟨hcs, _⟩ | ⟨y, l, cp, m, Sx, hcs, _⟩
        · exact ⟨_, _, _, by simpa using hcs⟩
        · exact ⟨_, _, _, by simpa using hcs⟩
      obtain ⟨A, L, C, hv⟩ := hv
      rw [hv] at h1
      obtain ⟨S, h2, h3, h4⟩ := strs_cells h1
      exact ⟨(A, L, C, S), hv, h2, h3, h4⟩
    obtain ⟨T, hT⟩ := Deep.choose_lt each
    refine ⟨fun i => (T i).1, fun i => (T i).2.1, fun i => (T i).2.2.1, fun i => (T i).2.2.2, fun i hi => ?_, by omega, fun h => (by cases h), fun i hi => (hT i (by omega)).2.2.2⟩
    obtain ⟨b, off, e, hc⟩ := at_add (hx 0 (by omega)).1 (hx i (by omega)).1
    exact ⟨b, off, e, by rw [hc, (hT i (by omega)).1], (hT i (by omega)).2.2.1, (hT i (by omega)).2.1⟩
end

set_option maxRecDepth 100000 in
theorem lifted (os : Os) (started : os.Started) (H : Type) (enc : TypeId × Value → H) :
    ReturnsInHanded {} Try.checked os 11 .any (Rows.fnGatheringStrayPartClosesSpec.pre6 enc Try.prog Try.f11 Rows.fnGatheringStrayPartClosesRow.domain false) (Rows.fnGatheringStrayPartClosesSpec.post enc Try.prog Try.f11 false true false false) := by
  refine returnsInHanded_of_change (C := Try.checked) own started (by kernel_rfl) Try.func11
    (ChangeSpec.witness6 (enc := enc) (C := Try.checked) false ⟨#[], #[.int .u64 0, .slice none 0 0, .int .u64 0, .string ByteArray.empty, .bool false, .slice none 0 0, .slice none 0 0, .slice none 0 0, .slice none 0 0, .slice none 0 0, .int .i64 0], []⟩ 8 (by kernel_rfl) (by kernel_rfl) (by kernel_rfl) (by kernel_rfl)) ?_
  intro W base args ds gs before hval0 hW hcnd _
  have hval : ∀ (j : Nat) t v, Try.f11.params[j]? = some t → args[j]? = some v → Value.okWide Try.prog W .any base t v := hval0
  have hW' := hW
  obtain ⟨p, q, hA0, hV, rfl, hfz, hnd⟩ := hW
  have hA : DataW.TrodAll enc Try.prog W 0 (fun _ => true) true Try.f11.params.toList args.toList ds p := hA0
  rw [Try.params11] at hA hval
  obtain ⟨v0, vs0, d0, ds0, p0, q0, hargs, rfl, rfl, h0, r0⟩ := trodAll_cons hA
  obtain ⟨v1, vs1, d1, ds1, p1, q1, rfl, rfl, rfl, h1, r1⟩ := trodAll_cons r0
  obtain ⟨v2, vs2, d2, ds2, p2, q2, rfl, rfl, rfl, h2, r2⟩ := trodAll_cons r1
  obtain ⟨v3, vs3, d3, ds3, p3, q3, rfl, rfl, rfl, h3, r3⟩ := trodAll_cons r2
  obtain ⟨v4, vs4, d4, ds4, p4, q4, rfl, rfl, rfl, h4, r4⟩ := trodAll_cons r3
  obtain ⟨v5, vs5, d5, ds5, p5, q5, rfl, rfl, rfl, h5, r5⟩ := trodAll_cons r4
  obtain ⟨v6, vs6, d6, ds6, p6, q6, rfl, rfl, rfl, h6, r6⟩ := trodAll_cons r5
  obtain ⟨v7, vs7, d7, ds7, p7, q7, rfl, rfl, rfl, h7, r7⟩ := trodAll_cons r6
  obtain ⟨v8, vs8, d8, ds8, p8, q8, rfl, rfl, rfl, h8, r8⟩ := trodAll_cons r7
  obtain ⟨v9, vs9, d9, ds9, p9, q9, rfl, rfl, rfl, h9, r9⟩ := trodAll_cons r8
  obtain ⟨v10, vs10, d10, ds10, p10, q10, rfl, rfl, rfl, h10, r10⟩ := trodAll_cons r9
  obtain ⟨rfl, rfl, rfl⟩ := trodAll_nil r10
  obtain rfl : args = #[v0, v1, v2, v3, v4, v5, v6, v7, v8, v9, v10] := by cases args; simp_all
  obtain ⟨rfl, rfl⟩ := trodVars_none hV
  obtain ⟨a1, n1, c1, rfl⟩ := okWide_slice Try.underlying33 (hval 1 33 v1 rfl rfl)
  obtain ⟨a5, n5, c5, rfl⟩ := okWide_slice Try.underlying33 (hval 5 33 v5 rfl rfl)
  obtain ⟨a6, n6, c6, rfl⟩ := okWide_slice Try.underlying53 (hval 6 53 v6 rfl rfl)
  obtain ⟨a7, n7, c7, rfl⟩ := okWide_slice Try.underlying33 (hval 7 33 v7 rfl rfl)
  obtain ⟨a8, n8, c8, rfl⟩ := okWide_slice Try.underlying54 (hval 8 54 v8 rfl rfl)
  obtain ⟨a9, n9, c9, rfl⟩ := okWide_slice Try.underlying49 (hval 9 49 v9 rfl rfl)
  have lt1 : ∀ x ∈ p1, x.block < W.heap.size := by obtain ⟨m, hm⟩ := h1; exact DataW.trod_lt m _ _ _ hm
  have lt5 : ∀ x ∈ p5, x.block < W.heap.size := by obtain ⟨m, hm⟩ := h5; exact DataW.trod_lt m _ _ _ hm
  have lt6 : ∀ x ∈ p6, x.block < W.heap.size := by obtain ⟨m, hm⟩ := h6; exact DataW.trod_lt m _ _ _ hm
  have lt7 : ∀ x ∈ p7, x.block < W.heap.size := by obtain ⟨m, hm⟩ := h7; exact DataW.trod_lt m _ _ _ hm
  have lt8 : ∀ x ∈ p8, x.block < W.heap.size := by obtain ⟨m, hm⟩ := h8; exact DataW.trod_lt m _ _ _ hm
  have lt9 : ∀ x ∈ p9, x.block < W.heap.size := by obtain ⟨m, hm⟩ := h9; exact DataW.trod_lt m _ _ _ hm
  obtain ⟨S1, s1, l1, z1⟩ := strs_arg h1
  obtain ⟨S5, s5, l5, z5⟩ := strs_arg h5
  obtain ⟨Z6, s6, l6, z6⟩ := ints_arg h6
  obtain ⟨S7, s7, l7, z7⟩ := strs_arg h7
  obtain ⟨Z8, s8, l8, z8⟩ := bools_arg h8
  obtain ⟨A, L, C, S9, s9, l9, z9, z9i⟩ := parts_arg h9
  obtain ⟨g, rfl, rfl, rfl, w0⟩ := open_int Try.underlying43 (hval 0 43 v0 rfl rfl) h0
  obtain ⟨g2, rfl, rfl, rfl, w2⟩ := open_int Try.underlying43 (hval 2 43 v2 rfl rfl) h2
  obtain ⟨s, rfl, rfl, rfl, w3⟩ := open_string Try.underlying9 (hval 3 9 v3 rfl rfl) h3
  obtain ⟨m2, rfl, rfl, rfl⟩ := open_bool Try.underlying4 (hval 4 4 v4 rfl rfl) h4
  obtain ⟨most, rfl, rfl, rfl, w10⟩ := open_int Try.underlying3 (hval 10 3 v10 rfl rfl) h10
  clear hA0 hval0
  refine (law g g2 s m2 most a1 n1 c1 S1 a5 n5 c5 S5 a6 n6 c6 Z6 a7 n7 c7 S7 a8 n8 c8 Z8 a9 n9 c9 A L C S9 W s1 l1 z1 w3 s5 l5 z5 s6 l6 z6 s7 l7 z7 s8 l8 z8 s9 l9 z9 z9i).mono fun e W' ⟨he, bel⟩ => ?_
  subst he
  exact ⟨_, rfl, _, _, _, [], _, [], hW', trodAll_mk1 (shut_bool Try.underlying4 _),
    (trodAll_cons_mk (shut_int Try.underlying43 w0)
    (trodAll_cons_mk (Below.trod laidOut (by kernel_rfl) (of_decide_eq_true (by kernel_rfl)) h1 bel lt1)
    (trodAll_cons_mk (shut_int Try.underlying43 w2)
    (trodAll_cons_mk (shut_string Try.underlying9 w3)
    (trodAll_cons_mk (shut_bool Try.underlying4 _)
    (trodAll_cons_mk (Below.trod laidOut (by kernel_rfl) (of_decide_eq_true (by kernel_rfl)) h5 bel lt5)
    (trodAll_cons_mk (Below.trod laidOut (by kernel_rfl) (of_decide_eq_true (by kernel_rfl)) h6 bel lt6)
    (trodAll_cons_mk (Below.trod laidOut (by kernel_rfl) (of_decide_eq_true (by kernel_rfl)) h7 bel lt7)
    (trodAll_cons_mk (Below.trod laidOut (by kernel_rfl) (of_decide_eq_true (by kernel_rfl)) h8 bel lt8)
    (trodAll_cons_mk (Below.trod laidOut (by kernel_rfl) (of_decide_eq_true (by kernel_rfl)) h9 bel lt9)
    (trodAll_cons_mk (shut_int Try.underlying3 w10) trodAll_mk0))))))))))), rfl, bel.frame _, fun h => by cases h⟩

end Go.Proofs.Qxb6602261a
