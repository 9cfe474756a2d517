/-
  Seat b6602261a. '(*gathering).add' at a first part; 'ZZGatheringAdd', 'ZZNewGathering'.
-/
import Derived.Test.Qxb6602261aAddOpen
namespace Go.Proofs.Qxb6602261a
open Go.RowKit

/-- What a first part with more to come leaves. -/
def Begun (w : World) (G : Nat) (gen : Int) (n : Nat) (f : Nat → Value) (e : Ending) (w' : World) : Prop :=
  e = .returned (.tuple #[.slice none 0 0, .bool false]) ∧ w.grownBy w' (some G) ∧ ∃ A C op, Gath w' G gen A n C op ∧ RowAt w' A n f ∧ ∀ x, A = some x → x.block ≠ G ∧ x.block < w'.heap.size

theorem RowAt.setG {w : World} {A : Option Addr} {n G : Nat} {f : Nat → Value} (h : RowAt w A n f) (hA : ∀ x, A = some x → x.block ≠ G) (i : Nat) (v : Value) : RowAt (w.setCell ⟨G, i, none⟩ v) A n f := by
  intro j hj
  obtain ⟨b, off, rfl, hc⟩ := h j hj
  exact ⟨b, off, rfl, (World.cell?_of_block (w := w) (a := ⟨b, off + j, none⟩) (Below.heap_setCell _ _ _ _ (hA _ rfl))).trans hc⟩

theorem begun_mk {w wc : World} {G : Nat} {gen0 gen : Int} {A0 A : Option Addr} {L0 C0 C n : Nat} {op0 : Bool} {f : Nat → Value} {o : Obj} (hG : Gath w G gen0 A0 L0 C0 op0) (hb : Below (w.alloc o).heap.size (w.alloc o) wc) (hr : RowAt wc A n f) (hA : ∀ x, A = some x → x.block ≠ G) (op : Bool) :
    Gath (((wc.setCell ⟨G, 0, none⟩ (.int .u64 gen)).setCell ⟨G, 1, none⟩ (.slice A n C)).setCell ⟨G, 2, none⟩ (.bool op)) G gen A n C op ∧
    w.grownBy (((wc.setCell ⟨G, 0, none⟩ (.int .u64 gen)).setCell ⟨G, 1, none⟩ (.slice A n C)).setCell ⟨G, 2, none⟩ (.bool op)) (some G) ∧
    RowAt (((wc.setCell ⟨G, 0, none⟩ (.int .u64 gen)).setCell ⟨G, 1, none⟩ (.slice A n C)).setCell ⟨G, 2, none⟩ (.bool op)) A n f := by
  have h1 := hG.alloc o
  refine ⟨(((h1.kept hb).s0 gen).s1 A n C).s2 op, gb_setCell (gb_setCell (gb_setCell (gb_trans (gb_alloc (gb_refl w _) o) (gb_below hb)) 0 _) 1 _) 2 _, ?_⟩
  exact ((hr.setG hA 0 _).setG hA 1 _).setG hA 2 _

set_option maxHeartbeats 2000000 in
set_option maxRecDepth 100000 in
theorem add_first (G : Nat) (gen0 gen : Int) (A0 : Option Addr) (L0 C0 : Nat) (op0 : Bool) (a : Option Addr) (n c : Nat) (S : Nat → ByteArray) (most : Int) (w : World) (hG : Gath w G gen0 A0 L0 C0 op0)
    (hS : RowAt w a n (fun i => .string (S i))) (hn : n ≤ 1048576) (hz : a = none → n = 0 ∧ c = 0) :
    Calls Try.prog 43 #[.pointer (some ⟨G, 0, none⟩), .int .u64 gen, .agg #[.string { data := #[] }, .bool true], .slice a n c, .int .i64 most] w
      fun e w' => Begun w G gen n (fun i => .string (S i)) e w' := by
  have hGlt := hG.lt
  have HZ : Hid (a = none → n = 0 ∧ c = 0) := hz
  have HS : Hid (RowAt (w.alloc (.cells #[.string { data := #[] }, .bool true] 64)) a n (fun i => .string (S i))) := hS.below ((Below.refl _ w).alloc (Nat.le_refl _) _)
  clear hz hS
  by_cases hm : most < (n : Int)
  all_goals
    go_enter Try.func43, Try.ntmps43
    go_wp2_with fail
    refine (slicesClone_any _ _ _ _ _ HS.out hn HZ.out).mono ?_
    rintro e wc ⟨A, C, rfl, hr, hb, _, hAlt⟩
    have hAne : ∀ x, A = some x → x.block ≠ G := fun x hx => by have := (hAlt x hx).1; simp at this; omega
    have hg := (hG.alloc (.cells #[.string { data := #[] }, .bool true] 64)).kept hb
    have c0 := hg.c0
    have c1 := hg.c1
    have c2 := hg.c2
    have f0 := hg.free 0
    have f1 := hg.free 1
    have f2 := hg.free 2
    have B1 := begun_mk (gen := gen) (C := C) hG hb hr hAne true
    have d1 := B1.1.c1
    have d2 := B1.1.c2
    have d3 := (B1.1.s2 false).c2
    have hmore : wc.cell? ⟨w.heap.size, 1, none⟩ = some (.bool true) := by
      rw [hb.cell (p := ⟨w.heap.size, 1, none⟩) (by simp)]; simp
    have hneG : w.heap.size ≠ G := by omega
    have HB : Hid _ := B1
    have HAL : Hid (∀ x, A = some x → x.block < wc.heap.size) := fun x hx => (hAlt x hx).2
    clear B1 hg hb hr hAlt hG
    go_wp2
    go_ret2
    first
      | exact ⟨rfl, HB.out.2.1, A, C, true, HB.out.1, HB.out.2.2, fun x hx => ⟨hAne x hx, by simpa [World.setCell] using HAL.out x hx⟩⟩
      | exact ⟨rfl, gb_setCell HB.out.2.1 2 _, A, C, false, HB.out.1.s2 false, HB.out.2.2.setG hAne 2 _, fun x hx => ⟨hAne x hx, by simpa [World.setCell] using HAL.out x hx⟩⟩

set_option maxHeartbeats 1000000 in
set_option maxRecDepth 100000 in
/-- 'ZZGatheringAdd' hands on what 'add' hands back. -/
theorem gadd_of (G : Nat) (g : Int) (s : ByteArray) (mo : Bool) (v : Value) (most : Int) (w : World) (T : World → Prop)
    (hc : Calls Try.prog 43 #[.pointer (some ⟨G, 0, none⟩), .int .u64 g, .agg #[.string s, .bool mo], v, .int .i64 most] w fun e w' => e = .returned (.tuple #[.slice none 0 0, .bool false]) ∧ T w') :
    Calls Try.prog 31 #[.pointer (some ⟨G, 0, none⟩), .int .u64 g, .string s, .bool mo, v, .int .i64 most] w fun e w' => e = .returned (.tuple #[.slice none 0 0, .bool false]) ∧ T w' := by
  have HC : Hid (Calls Try.prog 43 #[.pointer (some ⟨G, 0, none⟩), .int .u64 g, .agg #[.string s, .bool mo], v, .int .i64 most] w fun e w' => e = .returned (.tuple #[.slice none 0 0, .bool false]) ∧ T w') := hc
  clear hc
  go_enter Try.func31, Try.ntmps31
  go_wp2_with (go_at_call 43; refine HC.out.mono ?_; rintro e w' ⟨rfl, hT⟩)
  go_ret2
  exact ⟨rfl, hT⟩

/-- A part that continues nothing. -/
theorem gadd_stray (G : Nat) (gen g : Int) (A : Option Addr) (L C : Nat) (op : Bool) (S : Nat → ByteArray) (s : ByteArray) (mo : Bool) (v : Value) (most : Int) (w : World) (hG : Gath w G gen A L C op) (hs : s.toList.isEmpty = false)
    (hr : RowAt w A L (fun i => .string (S i))) (hL : L ≤ 1048576) (hno : ¬ (g = gen ∧ 0 < L ∧ S (L - 1) = s)) :
    Calls Try.prog 31 #[.pointer (some ⟨G, 0, none⟩), .int .u64 g, .string s, .bool mo, v, .int .i64 most] w fun e w' => Refused w G gen A L C e w' := by
  refine gadd_of G g s mo v most w (fun w' => w.grownBy w' (some G) ∧ Gath w' G gen A L C false) ?_
  show Calls Try.prog 43 _ w fun e w' => Refused w G gen A L C e w'
  cases op with
  | false => exact add_shut G gen g A L C s mo v most w hG hs
  | true =>
    by_cases hg : g = gen
    · subst hg
      by_cases h0 : L = 0
      · subst h0
        exact add_none G g A C s mo v most w hG hs
      · obtain ⟨l, rfl⟩ : ∃ l, L = l + 1 := ⟨L - 1, by omega⟩
        obtain ⟨b, off, rfl, hc⟩ := hr l (by omega)
        refine add_name G g b off l C (S l) s mo v most w hL hG hs (block_lt_of_cell hc) hc ?_
        cases hb : (s.toList == (S l).toList) with
        | false => rfl
        | true =>
          exfalso
          refine hno ⟨rfl, by omega, ?_⟩
          have e := eq_of_beq hb
          rw [Nat.add_sub_cancel]
          rw [ByteArray.toList_eq, ByteArray.toList_eq] at e
          exact (ByteArray.ext (Array.ext' e)).symm
    · exact add_gen G gen g A L C s mo v most w hG hs (by simpa using hg)

theorem gadd_first (G : Nat) (gen0 gen : Int) (A0 : Option Addr) (L0 C0 : Nat) (op0 : Bool) (a : Option Addr) (n c : Nat) (S : Nat → ByteArray) (most : Int) (w : World) (hG : Gath w G gen0 A0 L0 C0 op0)
    (hS : RowAt w a n (fun i => .string (S i))) (hn : n ≤ 1048576) (hz : a = none → n = 0 ∧ c = 0) :
    Calls Try.prog 31 #[.pointer (some ⟨G, 0, none⟩), .int .u64 gen, .string { data := #[] }, .bool true, .slice a n c, .int .i64 most] w
      fun e w' => Begun w G gen n (fun i => .string (S i)) e w' := by
  refine gadd_of G gen _ true _ most w (fun w' => w.grownBy w' (some G) ∧ ∃ A C op, Gath w' G gen A n C op ∧ RowAt w' A n (fun i => .string (S i)) ∧ ∀ x, A = some x → x.block ≠ G ∧ x.block < w'.heap.size) ?_
  exact add_first G gen0 gen A0 L0 C0 op0 a n c S most w hG hS hn hz

set_option maxHeartbeats 1000000 in
/-- 'ZZNewGathering(0, nil, false)': a new block. -/
theorem newGath (w : World) :
    Calls Try.prog 30 #[.int .u64 0, .slice none 0 0, .bool false] w fun e w' => e = .returned (.pointer (some ⟨w.heap.size, 0, none⟩)) ∧ w' = w.alloc (.cells #[.int .u64 0, .slice none 0 0, .bool false] 61) := by
  go_enter Try.func30, Try.ntmps30
  go_wp2
  go_ret
  exact ⟨rfl, rfl⟩

theorem gath_new (w : World) : Gath (w.alloc (.cells #[.int .u64 0, .slice none 0 0, .bool false] 61)) w.heap.size 0 none 0 0 false := by
  unfold Gath
  show (w.heap.push _)[w.heap.size]? = _
  simp
end Go.Proofs.Qxb6602261a
