/-
  Seat b6602261a. THE WALK OF THE LAW 'FnGatheringStrayPartCloses': it returns true, and nothing that was there has turned.
-/
import Derived.Test.Qxb6602261aAddFirst
import Derived.Test.Qxb6602261aBytes
import Derived.Test.Qxb6602261aCloneParts
import Derived.Deep.DeepCutAuto
import Derived.Deep.RegionHeld3
namespace Go.Proofs.Qxb6602261a
open Go.RowKit

/-- The law's end. -/
def Done (w : World) (e : Ending) (w' : World) : Prop := e = .returned (.bool true) ∧ Below w.heap.size w w'

theorem StrsAt.row {w : World} {a : Option Addr} {n : Nat} {S : Nat → ByteArray} (h : StrsAt w a n S) : RowAt w a n (fun i => .string (S i)) := fun i hi => by
  obtain ⟨b, off, e, hc, _⟩ := h i hi
  exact ⟨b, off, e, hc⟩

/-- Behind the gathering's block: what lay below it is as it was. -/
theorem below_of_gb {w6 wr : World} {o : Obj} (h : (w6.alloc o).grownBy wr (some w6.heap.size)) : Below w6.heap.size w6 wr :=
  ⟨h.os, h.tape, h.output, by have := h.size; simp at this; omega, fun k hk => (h.block k (by simp; omega) (by simp; omega)).trans (Below.heap_alloc w6 o k hk)⟩

theorem gb_drew {w w' : World} {r : Option Nat} (h : w.grownBy w' r) : w.grownBy w'.drew r := ⟨h.os, h.tape, h.output, h.size, h.block⟩

theorem gb_cell {w w' : World} {G b o : Nat} {v : Value} (h : w.grownBy w' (some G)) (hc : w.cell? ⟨b, o, none⟩ = some v) (hne : b < G) : w'.cell? ⟨b, o, none⟩ = some v :=
  (World.cell?_of_block (w := w) (a := ⟨b, o, none⟩) (h.block b (block_lt_of_cell hc) (by simp; omega))).trans hc

/-- A part behind the first, the list being closed. -/
theorem gadd_shut (G : Nat) (gen g : Int) (A : Option Addr) (L C : Nat) (s : ByteArray) (mo : Bool) (v : Value) (most : Int) (w : World) (hG : Gath w G gen A L C false) (hs : s.toList.isEmpty = false) :
    Calls Try.prog 31 #[.pointer (some ⟨G, 0, none⟩), .int .u64 g, .string s, .bool mo, v, .int .i64 most] w fun e w' => Refused w G gen A L C e w' :=
  gadd_of G g s mo v most w (fun w' => w.grownBy w' (some G) ∧ Gath w' G gen A L C false) (add_shut G gen g A L C s mo v most w hG hs)

theorem PartsAt.below {w w' : World} {a : Option Addr} {n : Nat} {A : Nat → Option Addr} {L C : Nat → Nat} {S : Nat → Nat → ByteArray} (h : PartsAt w a n A L C S) (hb : Below w.heap.size w w') : PartsAt w' a n A L C S := fun i hi => by
  obtain ⟨b, off, e, hc, hl, hs⟩ := h i hi
  refine ⟨b, off, e, (hb.cell (p := ⟨b, off + i, none⟩) (block_lt_of_cell hc)).trans hc, hl, fun j hj => ?_⟩
  obtain ⟨b', off', e', hc', hm⟩ := hs j hj
  exact ⟨b', off', e', (hb.cell (p := ⟨b', off' + j, none⟩) (block_lt_of_cell hc')).trans hc', hm⟩

set_option maxRecDepth 100000 in
set_option maxHeartbeats 8000000 in
theorem law (g g2 : Int) (s : ByteArray) (m2 : Bool) (most : Int)
    (a1 : Option Addr) (n1 c1 : Nat) (S1 : Nat → ByteArray) (a5 : Option Addr) (n5 c5 : Nat) (S5 : Nat → ByteArray)
    (a6 : Option Addr) (n6 c6 : Nat) (Z6 : Nat → Int) (a7 : Option Addr) (n7 c7 : Nat) (S7 : Nat → ByteArray)
    (a8 : Option Addr) (n8 c8 : Nat) (Z8 : Nat → Bool) (a9 : Option Addr) (n9 c9 : Nat) (A : Nat → Option Addr) (L C : Nat → Nat) (S9 : Nat → Nat → ByteArray) (w : World)
    (h1 : StrsAt w a1 n1 S1) (l1 : n1 ≤ maxLen) (z1 : a1 = none → n1 = 0 ∧ c1 = 0) (ls : s.size ≤ maxLen) (h5 : StrsAt w a5 n5 S5) (l5 : n5 ≤ maxLen) (z5 : a5 = none → n5 = 0 ∧ c5 = 0)
    (h6 : RowAt w a6 n6 (fun i => .int .u64 (Z6 i))) (l6 : n6 ≤ maxLen) (z6 : a6 = none → n6 = 0 ∧ c6 = 0)
    (h7 : StrsAt w a7 n7 S7) (l7 : n7 ≤ maxLen) (z7 : a7 = none → n7 = 0 ∧ c7 = 0) (h8 : RowAt w a8 n8 (fun i => .bool (Z8 i))) (l8 : n8 ≤ maxLen) (z8 : a8 = none → n8 = 0 ∧ c8 = 0)
    (h9 : PartsAt w a9 n9 A L C S9) (l9 : n9 ≤ maxLen) (z9 : a9 = none → n9 = 0 ∧ c9 = 0) (z9i : ∀ i, i < n9 → A i = none → L i = 0 ∧ C i = 0) :
    Calls Try.prog 11 #[.int .u64 g, .slice a1 n1 c1, .int .u64 g2, .string s, .bool m2, .slice a5 n5 c5, .slice a6 n6 c6, .slice a7 n7 c7, .slice a8 n8 c8, .slice a9 n9 c9, .int .i64 most] w
      fun e w' => Done w e w' := by
  have H1 : Hid (StrsAt w a1 n1 S1) := h1
  have H5 : Hid (StrsAt w a5 n5 S5) := h5
  have H6 : Hid (RowAt w a6 n6 (fun i => .int .u64 (Z6 i))) := h6
  have H7 : Hid (StrsAt w a7 n7 S7) := h7
  have H8 : Hid (RowAt w a8 n8 (fun i => .bool (Z8 i))) := h8
  have H9 : Hid (PartsAt w a9 n9 A L C S9) := h9
  have Y1 : Hid (a1 = none → n1 = 0 ∧ c1 = 0) := z1
  have Y5 : Hid (a5 = none → n5 = 0 ∧ c5 = 0) := z5
  have Y6 : Hid (a6 = none → n6 = 0 ∧ c6 = 0) := z6
  have Y7 : Hid (a7 = none → n7 = 0 ∧ c7 = 0) := z7
  have Y8 : Hid (a8 = none → n8 = 0 ∧ c8 = 0) := z8
  have Y9 : Hid (a9 = none → n9 = 0 ∧ c9 = 0) := z9
  have Y9i : Hid (∀ i, i < n9 → A i = none → L i = 0 ∧ C i = 0) := z9i
  clear h1 h5 h6 h7 h8 h9 z1 z5 z6 z7 z8 z9 z9i
  have M : Hid (n1 ≤ maxLen ∧ s.size ≤ maxLen ∧ n5 ≤ maxLen ∧ n6 ≤ maxLen ∧ n7 ≤ maxLen ∧ n8 ≤ maxLen ∧ n9 ≤ maxLen) := ⟨l1, ls, l5, l6, l7, l8, l9⟩
  unfold maxLen at l1 ls l5 l6 l7 l8 l9
  go_enter Try.func11, Try.ntmps11
  go_wp2_with fail
  refine (bytes_any g g2 s m2 most a1 n1 c1 S1 a5 n5 c5 S5 a6 n6 c6 a7 n7 c7 S7 a8 n8 c8 a9 n9 c9 A L C S9 w H1.out M.out.1 M.out.2.1 H5.out M.out.2.2.1 M.out.2.2.2.1 H7.out M.out.2.2.2.2.1 M.out.2.2.2.2.2.1 H9.out M.out.2.2.2.2.2.2).mono ?_
  rintro e w ⟨b, rfl, rfl⟩
  cases b with
  | false =>
    go_wp2
    go_ret
    exact ⟨rfl, Below.refl _ _⟩
  | true =>
  go_wp2_with fail
  all_goals try (go_ret; exact ⟨rfl, Below.refl _ _⟩)
  refine (size_any a1 n1 c1 S1 w H1.out M.out.1).mono ?_
  rintro e w ⟨q1, rfl, rfl, p1, p1', p1''⟩
  go_wp2_with fail
  refine (size_any a5 n5 c5 S5 w H5.out M.out.2.2.1).mono ?_
  rintro e w ⟨q5, rfl, rfl, p5, p5', p5''⟩
  go_wp2_with fail
  refine (size_any a7 n7 c7 S7 w H7.out M.out.2.2.2.2.1).mono ?_
  rintro e w ⟨q7, rfl, rfl, p7, p7', p7''⟩
  go_wp2_with fail
  refine (sizeParts_any a9 n9 c9 A L C S9 w H9.out M.out.2.2.2.2.2.2).mono ?_
  rintro e w ⟨q9, rfl, rfl, p9, p9', p9''⟩
  have P9 : Hid (q9 ≤ 1048576 → n9 ≤ 65536 ∧ ∀ i, i < n9 → L i ≤ 65536) := p9''
  have P1 : Hid (q1 ≤ 1048576 → n1 ≤ 65536) := p1''
  have P5 : Hid (q5 ≤ 1048576 → n5 ≤ 65536) := p5''
  have P7 : Hid (q7 ≤ 1048576 → n7 ≤ 65536) := p7''
  clear p9'' p1'' p5'' p7''
  go_upto_region 9 with fail
  all_goals try (go_ret; exact ⟨rfl, Below.refl _ _⟩)
  have b1 : n1 ≤ 65536 := P1.out (by omega)
  have b5 : n5 ≤ 65536 := P5.out (by omega)
  have b7 : n7 ≤ 65536 := P7.out (by omega)
  have b9 : n9 ≤ 65536 := (P9.out (by omega)).1
  have b9i : Hid (∀ i, i < n9 → L i ≤ 1048576) := fun i hi => by have := (P9.out (by omega)).2 i hi; omega
  have b6 : n6 ≤ 65536 := by omega
  have b8 : n8 ≤ 65536 := by omega
  have hs : s.toList.isEmpty = false := by assumption
  clear P1 P5 P7 P9
  go_cut [99] (fun t w' => ∃ b : Bool, t = .bool b ∧ (b = false → ¬ (g2 = g ∧ 0 < n1 ∧ S1 (n1 - 1) = s)) ∧ w = w')
  case first =>
    by_cases hg : g2 = g
    · subst hg
      by_cases h0 : n1 = 0
      · subst h0
        go_wp2
        go_meet
        case rel => exact ⟨_, rfl, fun _ h => by omega, rfl⟩
      · obtain ⟨l, rfl⟩ : ∃ l, n1 = l + 1 := ⟨n1 - 1, by omega⟩
        obtain ⟨b, off, rfl, hc, hm⟩ := H1.out l (by omega)
        go_wp2
        go_meet
        case rel =>
          refine ⟨_, rfl, fun hb h => ?_, rfl⟩
          have e := h.2.2
          rw [Nat.add_sub_cancel] at e
          rw [e] at hb
          simp at hb
    · have hgb : (g2 == g) = false := by simpa using hg
      go_wp2
      go_meet
      case rel => exact ⟨_, rfl, fun _ h => hg h.1, rfl⟩
  case rest =>
    obtain ⟨b, rfl, hb, rfl⟩ := hcut
    cases b with
    | true =>
      go_wp2
      go_ret
      exact ⟨rfl, Below.refl _ _⟩
    | false =>
      have HNO : Hid (¬ (g2 = g ∧ 0 < n1 ∧ S1 (n1 - 1) = s)) := hb rfl
      clear hb
      go_wp2_with fail
      refine (clone_any a1 n1 c1 S1 w H1.out.row (by omega) Y1.out).mono ?_
      rintro e w1 ⟨a1', c1', rfl, r1, e1, t1, _⟩
      have R1 : Hid (RowAt w1 a1' n1 (fun i => .string (S1 i))) := r1
      have Z1 : Hid (a1' = none → n1 = 0 ∧ c1' = 0) := t1
      have B1 : Hid (Below w.heap.size w w1) := e1
      clear r1 e1 t1
      go_wp2_with fail
      refine (clone_any a5 n5 c5 S5 w1 (H5.out.row.below B1.out) (by omega) Y5.out).mono ?_
      rintro e w2 ⟨a5', c5', rfl, r5, e2, _, _⟩
      have R2 : Hid (RowAt w2 a1' n1 (fun i => .string (S1 i))) := R1.out.below e2
      have B2 : Hid (Below w.heap.size w w2) := B1.out.trans (e2.mono B1.out.size)
      clear r5 e2 R1 B1
      go_wp2_with fail
      refine (cloneU64_any a6 n6 c6 Z6 w2 (H6.out.below B2.out) (by omega) Y6.out).mono ?_
      rintro e w3 ⟨a6', c6', rfl, r6, e3, _, _⟩
      have R3 : Hid (RowAt w3 a1' n1 (fun i => .string (S1 i))) := R2.out.below e3
      have B3 : Hid (Below w.heap.size w w3) := B2.out.trans (e3.mono B2.out.size)
      have G3 : Hid (RowAt w3 a6' n6 (fun i => .int .u64 (Z6 i))) := r6
      clear r6 e3 R2 B2
      go_wp2_with fail
      refine (clone_any a7 n7 c7 S7 w3 (H7.out.row.below B3.out) (by omega) Y7.out).mono ?_
      rintro e w4 ⟨a7', c7', rfl, r7, e4, _, _⟩
      have R4 : Hid (RowAt w4 a1' n1 (fun i => .string (S1 i))) := R3.out.below e4
      have B4 : Hid (Below w.heap.size w w4) := B3.out.trans (e4.mono B3.out.size)
      have G4 : Hid (RowAt w4 a6' n6 (fun i => .int .u64 (Z6 i))) := G3.out.below e4
      have A4 : Hid (RowAt w4 a7' n7 (fun i => .string (S7 i))) := r7
      clear r7 e4 R3 B3 G3
      go_wp2_with fail
      refine (cloneBools_any a8 n8 c8 Z8 w4 (H8.out.below B4.out) (by omega) Y8.out).mono ?_
      rintro e w5 ⟨a8', c8', rfl, r8, e5, _, _⟩
      have R5 : Hid (RowAt w5 a1' n1 (fun i => .string (S1 i))) := R4.out.below e5
      have B5 : Hid (Below w.heap.size w w5) := B4.out.trans (e5.mono B4.out.size)
      have G5 : Hid (RowAt w5 a6' n6 (fun i => .int .u64 (Z6 i))) := G4.out.below e5
      have A5 : Hid (RowAt w5 a7' n7 (fun i => .string (S7 i))) := A4.out.below e5
      have M5 : Hid (RowAt w5 a8' n8 (fun i => .bool (Z8 i))) := r8
      clear r8 e5 R4 B4 G4 A4
      go_wp2_with fail
      refine (cloneParts_any a9 n9 c9 A L C S9 w5 (H9.out.below B5.out) (by omega) b9i.out Y9.out Y9i.out).mono ?_
      rintro e w6 ⟨a9', c9', rfl, ⟨f9, s9, r9⟩, e6, _⟩
      have R6 : Hid (RowAt w6 a1' n1 (fun i => .string (S1 i))) := R5.out.below e6
      have B6 : Hid (Below w.heap.size w w6) := B5.out.trans (e6.mono B5.out.size)
      have G6 : Hid (RowAt w6 a6' n6 (fun i => .int .u64 (Z6 i))) := G5.out.below e6
      have A6 : Hid (RowAt w6 a7' n7 (fun i => .string (S7 i))) := A5.out.below e6
      have M6 : Hid (RowAt w6 a8' n8 (fun i => .bool (Z8 i))) := M5.out.below e6
      have Q6 : Hid (RowAt w6 a9' n9 f9) := r9
      have Q6s : Hid (∀ j, IsSl (f9 j)) := s9
      clear r9 e6 s9 R5 B5 G5 A5 M5
      clear Y1 Y5 Y6 Y7 Y8 Y9 Y9i H1 H5 H6 H7 H8 H9 b9i
      go_wp2_with fail
      refine (newGath w6).mono ?_
      rintro e w7 ⟨rfl, rfl⟩
      go_wp2_with fail
      refine (gadd_first w6.heap.size 0 g none 0 0 false a1' n1 c1' S1 most _ (gath_new w6) (R6.out.below ((Below.refl _ w6).alloc (Nat.le_refl _) _)) (by omega) Z1.out).mono ?_
      rintro e w8 ⟨rfl, gb8, A8, C8, op8, ga8, ra8, _⟩
      have GB8 : Hid ((w6.alloc (.cells #[.int .u64 0, .slice none 0 0, .bool false] 61)).grownBy w8 (some w6.heap.size)) := gb8
      have GA8 : Hid (Gath w8 w6.heap.size g A8 n1 C8 op8) := ga8
      have RA8 : Hid (RowAt w8 A8 n1 (fun i => .string (S1 i))) := ra8
      clear gb8 ga8 ra8 R6 Z1
      have qn : ∀ (w : World), (binOp .neq 33 (.slice none 0 0) (.slice none 0 0)).run Try.prog w = .ok (.bool false) w := fun w => run_neq_slice_nil_any w 33 _ none 0 0 0 0 Try.underlying33
      go_wp2_with fail
      refine (gadd_stray w6.heap.size g g2 A8 n1 C8 op8 S1 s m2 _ most w8 GA8.out hs RA8.out (by omega) HNO.out).mono ?_
      rintro e w9 ⟨rfl, gb9, ga9⟩
      have GB9 : Hid ((w6.alloc (.cells #[.int .u64 0, .slice none 0 0, .bool false] 61)).grownBy w9 (some w6.heap.size)) := gb_trans GB8.out gb9
      have GA9 : Hid (Gath w9 w6.heap.size g A8 n1 C8 false) := ga9
      clear gb9 ga9 GB8 GA8 RA8
      go_upto_if 146 with fail
      go_cut [28] (fun t w' => ∃ N : Nat, t = .int .i64 N ∧ N ≤ n6 ∧ N ≤ n7 ∧ w9 = w')
      case first =>
        go_wp2
        · go_meet
          case rel => exact ⟨n7, rfl, by omega, by omega, rfl⟩
        · go_meet
          case rel => exact ⟨n6, rfl, by omega, by omega, rfl⟩
      case rest =>
      obtain ⟨N, rfl, hN6, hN7, rfl⟩ := hcut
      go_upto_if 152 with fail
      go_cut [28] (fun t w' => ∃ M : Nat, t = .int .i64 M ∧ M ≤ n6 ∧ M ≤ n7 ∧ M ≤ n8 ∧ w9 = w')
      case first =>
        go_wp2
        · go_meet
          case rel => exact ⟨n8, rfl, by omega, by omega, by omega, rfl⟩
        · go_meet
          case rel => exact ⟨N, rfl, by omega, by omega, by omega, rfl⟩
      case rest =>
      clear hN6 hN7 N
      obtain ⟨N, rfl, hN6, hN7, hN8, rfl⟩ := hcut
      go_upto_if 158 with fail
      go_cut [28] (fun t w' => ∃ M : Nat, t = .int .i64 M ∧ M ≤ n6 ∧ M ≤ n7 ∧ M ≤ n8 ∧ M ≤ n9 ∧ w9 = w')
      case first =>
        go_wp2
        · go_meet
          case rel => exact ⟨n9, rfl, by omega, by omega, by omega, by omega, rfl⟩
        · go_meet
          case rel => exact ⟨N, rfl, by omega, by omega, by omega, by omega, rfl⟩
      case rest =>
      clear hN6 hN7 hN8 N
      obtain ⟨N, rfl, hN6, hN7, hN8, hN9, rfl⟩ := hcut
      go_wp2_with fail
      go_loopw [29] (fun i wr => ∃ k : Nat, k ≤ N ∧ i = .int .i64 k ∧ Gath wr w6.heap.size g A8 n1 C8 false ∧ (w6.alloc (.cells #[.int .u64 0, .slice none 0 0, .bool false] 61)).grownBy wr (some w6.heap.size)) (fun i _ => N - (intOf i).toNat)
      case atStart => exact ⟨0, Nat.zero_le _, rfl, GA9.out, GB9.out⟩
      case round =>
        obtain ⟨k, hk, rfl, ga, gb⟩ := hrel
        have bl := below_of_gb gb
        have GA : Hid (Gath wr w6.heap.size g A8 n1 C8 false) := ga
        have GB : Hid ((w6.alloc (.cells #[.int .u64 0, .slice none 0 0, .bool false] 61)).grownBy wr (some w6.heap.size)) := gb
        have FIN : Hid (Below w.heap.size w wr) := B6.out.trans (bl.mono B6.out.size)
        by_cases hlt : k < N
        · obtain ⟨x6, o6, rfl, j6⟩ := G6.out k (by omega)
          obtain ⟨x7, o7, rfl, j7⟩ := A6.out k (by omega)
          obtain ⟨x8, o8, rfl, j8⟩ := M6.out k (by omega)
          obtain ⟨x9, o9, rfl, j9⟩ := Q6.out k (by omega)
          have y6 : x6 < w6.heap.size := block_lt_of_cell j6
          have y7 : x7 < w6.heap.size := block_lt_of_cell j7
          have y8 : x8 < w6.heap.size := block_lt_of_cell j8
          have y9 : x9 < w6.heap.size := block_lt_of_cell j9
          obtain ⟨A9, L9, C9, hf9⟩ := Q6s.out k
          rw [hf9] at j9
          have hc6 : wr.cell? ⟨x6, o6 + k, none⟩ = some (.int .u64 (Z6 k)) := (bl.cell (p := ⟨x6, o6 + k, none⟩) y6).trans j6
          have hc7 : wr.cell? ⟨x7, o7 + k, none⟩ = some (.string (S7 k)) := (bl.cell (p := ⟨x7, o7 + k, none⟩) y7).trans j7
          have hc8 : wr.cell? ⟨x8, o8 + k, none⟩ = some (.bool (Z8 k)) := (bl.cell (p := ⟨x8, o8 + k, none⟩) y8).trans j8
          have hc9 : wr.cell? ⟨x9, o9 + k, none⟩ = some (.slice A9 L9 C9) := (bl.cell (p := ⟨x9, o9 + k, none⟩) y9).trans j9
          clear ga gb bl hf9 j6 j7 j8 j9
          have i0 : (0 : Int) ≤ (k : Int) := by omega
          have i6 : (k : Int) < (n6 : Int) := by omega
          have i7 : (k : Int) < (n7 : Int) := by omega
          have i8 : (k : Int) < (n8 : Int) := by omega
          have i9 : (k : Int) < (n9 : Int) := by omega
          by_cases hse : (S7 k).toList.isEmpty = true
          · go_wp2
            go_ret
            exact ⟨rfl, FIN.out⟩
          · have hse' : (S7 k).toList.isEmpty = false := by simpa using hse
            clear hse
            go_wp2_with fail
            go_region_held3 (fun w' => w'.cell? ⟨x6, o6 + k, none⟩ = some (.int .u64 (Z6 k)) ∧ w'.cell? ⟨x7, o7 + k, none⟩ = some (.string (S7 k)) ∧ w'.cell? ⟨x8, o8 + k, none⟩ = some (.bool (Z8 k)) ∧ w'.cell? ⟨x9, o9 + k, none⟩ = some (.slice A9 L9 C9)) (go_keep)
              (first | (go_at_call 31; refine (gadd_shut w6.heap.size g (Z6 k) A8 n1 C8 (S7 k) (Z8 k) _ most _ ?_ hse').mono ?_; (exact GA.out); rintro e w' ⟨rfl, gb1, ga1⟩; have k6 := gb_cell gb1 hc6 y6; have k7 := gb_cell gb1 hc7 y7; have k8 := gb_cell gb1 hc8 y8; have k9 := gb_cell gb1 hc9 y9; have GA1 : Hid (Gath w' w6.heap.size g A8 n1 C8 false) := ga1; have GB1 : Hid ((w6.alloc (.cells #[.int .u64 0, .slice none 0 0, .bool false] 61)).grownBy w' (some w6.heap.size)) := gb_trans (gb_drew GB.out) gb1; clear ga1 gb1))
            clear k6 k7 k8 k9 hc6 hc7 hc8 hc9
            go_wp2
            go_roundw
            case rel => exact ⟨k + 1, by omega, by go_num, GA1.out, GB1.out⟩
            case measure => simp [intOf]; omega
        · clear ga gb bl
          go_wp2
          go_ret
          exact ⟨rfl, FIN.out⟩
end Go.Proofs.Qxb6602261a
