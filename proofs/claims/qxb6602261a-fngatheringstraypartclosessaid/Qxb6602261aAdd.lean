/-
  Seat b6602261a. The contracts of 'slices.Clone' at []string, '(*gathering).add', 'ZZGatheringAdd', 'ZZNewGathering'.
-/
import Derived.Test.Qxb6602261aClone
import Derived.Deep.QuietTactic
import Derived.BigQuiet
import Derived.Lib.Walk
namespace Go.Proofs.Qxb6602261a
open Go.RowKit

theorem cloned_of_own {w w1 : World} {e : TypeId} {v : Value} {n : Nat} {f : Nat → Value} (h : w1.ownsRow w.heap.size e 1 v n ((List.range n).map f)) (hb : Below w.heap.size w w1) : Cloned w n f (.returned v) w1 := by
  rcases h.2 with ⟨rfl, rfl⟩ | ⟨g, cap, cur, rfl, hg, hh, _⟩
  · exact ⟨none, 0, rfl, fun i hi => by omega, hb, fun _ => ⟨rfl, rfl⟩, fun x hx => by cases hx⟩
  · refine ⟨_, cap, rfl, fun i hi => ⟨g, 0, rfl, ?_⟩, hb, fun h => (by cases h), fun x hx => ?_⟩
    · rw [Nat.zero_add, h.cellAt i (by omega)]
      simp [hi]
    · cases hx
      exact ⟨hg, (Array.getElem?_eq_some_iff.1 hh).1⟩

set_option maxHeartbeats 2000000 in
set_option maxRecDepth 100000 in
theorem slicesClone_any (a : Option Addr) (n c : Nat) (S : Nat → ByteArray) (w : World) (hS : RowAt w a n (fun i => .string (S i))) (hn : n ≤ 1048576) (hz : a = none → n = 0 ∧ c = 0) :
    Calls Try.prog 46 #[.slice a n c] w fun e w' => Cloned w n (fun i => .string (S i)) e w' := by
  have q : ∀ (w : World) (a : Option Addr) (n c n' c' : Nat), (binOp .eql 33 (.slice a n c) (.slice none n' c')).run Try.prog w = .ok (.bool a.isNone) w := fun w a n c n' c' => Lib.run_eql_slice_nil w _ _ a n c n' c' Try.underlying33
  match a, hz, hS with
  | none, hz, hS =>
    obtain ⟨rfl, rfl⟩ := hz rfl
    go_enter Try.func46, Try.ntmps46
    go_wp2
    go_ret
    exact ⟨none, 0, rfl, fun i hi => by omega, Below.refl _ _, fun _ => ⟨rfl, rfl⟩, fun x hx => by cases hx⟩
  | some x, hz, hS =>
    clear hz
    obtain ⟨i0, hi, hz0, hz1, hz2⟩ := info_parts Try.info9
    have HS : Hid (RowAt w (some x) n (fun i => .string (S i))) := hS
    clear hS
    go_enter Try.func46, Try.ntmps46
    go_wp2_with (at_builtin; refine wpList_append_own _ rfl _ _ 33 rfl w.heap.size 9 i0 (.string { data := #[] }) 1 16 Try.underlying33 hi hz0 hz1 hz2 rfl (by decide) _ _ _ rfl (World.ownsRow_made w #[] 0 (Nat.le_refl _) (Nat.zero_le _) rfl) x n c ((List.range n).map (fun i => Value.string (S i))) rfl ?qc1 ?qc2 ?qc3 ?qc4 ?qc5 ?qc6 ?_)
    case qc1 => simp
    case qc2 =>
      intro j u hj
      have hjn : j < n := by
        have := (List.getElem?_eq_some_iff.1 hj).1
        simpa using this
      obtain ⟨b, off, hxe, hc⟩ := HS.out j hjn
      simp only [Option.some.injEq] at hxe
      subst hxe
      rw [Addr.add_lit]
      refine Lib.cell?_alloc_some _ ?_
      rw [hc]
      simpa [hjn] using hj
    case qc3 => intro u hu; obtain ⟨x, _, rfl⟩ := List.mem_map.1 hu; rfl
    case qc4 => unfold maxLen; omega
    case qc5 => omega
    case qc6 => simp
    intro v' w1 hown hgrow hnil
    go_wp2
    go_ret
    have hbel : Below w.heap.size w w1 := ((Below.refl _ w).alloc (Nat.le_refl _) _).grown hgrow (by simp) (by intro k hk; simp [Value.ownBlock] at hk; omega)
    exact cloned_of_own (by simpa using hown) hbel

/-- Block G is a gathering: its generation, its names, its mark 'open'. -/
def Gath (w : World) (G : Nat) (gen : Int) (A : Option Addr) (L C : Nat) (op : Bool) : Prop :=
  w.heap[G]? = some (.cells #[.int .u64 gen, .slice A L C, .bool op] 61 (0, 0))

theorem Gath.c0 {w : World} {G : Nat} {gen : Int} {A : Option Addr} {L C : Nat} {op : Bool} (h : Gath w G gen A L C op) : w.cell? ⟨G, 0, none⟩ = some (.int .u64 gen) := by
  unfold Gath at h; simp [World.cell?, h]
theorem Gath.c1 {w : World} {G : Nat} {gen : Int} {A : Option Addr} {L C : Nat} {op : Bool} (h : Gath w G gen A L C op) : w.cell? ⟨G, 1, none⟩ = some (.slice A L C) := by
  unfold Gath at h; simp [World.cell?, h]
theorem Gath.c2 {w : World} {G : Nat} {gen : Int} {A : Option Addr} {L C : Nat} {op : Bool} (h : Gath w G gen A L C op) : w.cell? ⟨G, 2, none⟩ = some (.bool op) := by
  unfold Gath at h; simp [World.cell?, h]
theorem Gath.free {w : World} {G : Nat} {gen : Int} {A : Option Addr} {L C : Nat} {op : Bool} (h : Gath w G gen A L C op) (i : Nat) : w.frozen? ⟨G, i, none⟩ = false := by
  unfold Gath at h; simp [World.frozen?, h]
theorem Gath.lt {w : World} {G : Nat} {gen : Int} {A : Option Addr} {L C : Nat} {op : Bool} (h : Gath w G gen A L C op) : G < w.heap.size :=
  (Array.getElem?_eq_some_iff.1 h).1
theorem Gath.s0 {w : World} {G : Nat} {gen : Int} {A : Option Addr} {L C : Nat} {op : Bool} (h : Gath w G gen A L C op) (g : Int) : Gath (w.setCell ⟨G, 0, none⟩ (.int .u64 g)) G g A L C op := by
  unfold Gath at h ⊢; simp [World.setCell, Array.getElem?_modify, h]
theorem Gath.s1 {w : World} {G : Nat} {gen : Int} {A : Option Addr} {L C : Nat} {op : Bool} (h : Gath w G gen A L C op) (A' : Option Addr) (L' C' : Nat) : Gath (w.setCell ⟨G, 1, none⟩ (.slice A' L' C')) G gen A' L' C' op := by
  unfold Gath at h ⊢; simp [World.setCell, Array.getElem?_modify, h]
theorem Gath.s2 {w : World} {G : Nat} {gen : Int} {A : Option Addr} {L C : Nat} {op : Bool} (h : Gath w G gen A L C op) (b : Bool) : Gath (w.setCell ⟨G, 2, none⟩ (.bool b)) G gen A L C b := by
  unfold Gath at h ⊢; simp [World.setCell, Array.getElem?_modify, h]
theorem Gath.alloc {w : World} {G : Nat} {gen : Int} {A : Option Addr} {L C : Nat} {op : Bool} (h : Gath w G gen A L C op) (o : Obj) : Gath (w.alloc o) G gen A L C op :=
  (Below.heap_alloc w o G h.lt).trans h
theorem Gath.kept {w w' : World} {G : Nat} {gen : Int} {A : Option Addr} {L C : Nat} {op : Bool} (h : Gath w G gen A L C op) (hb : Below w.heap.size w w') : Gath w' G gen A L C op :=
  (hb.block G h.lt).trans h

theorem Gath.drewN {w : World} {G : Nat} {gen : Int} {A : Option Addr} {L C : Nat} {op : Bool} (h : Gath w G gen A L C op) (n : Nat) : Gath (w.drewN n) G gen A L C op := h

theorem gb_refl (w : World) (r : Option Nat) : w.grownBy w r := ⟨rfl, rfl, rfl, Nat.le_refl _, fun _ _ _ => rfl⟩
theorem gb_alloc {w w' : World} {r : Option Nat} (h : w.grownBy w' r) (o : Obj) : w.grownBy (w'.alloc o) r :=
  ⟨h.os, h.tape, h.output, by have := h.size; simp; omega, fun k hk hr => (Below.heap_alloc w' o k (Nat.lt_of_lt_of_le hk h.size)).trans (h.block k hk hr)⟩
theorem gb_drewN {w w' : World} {r : Option Nat} (h : w.grownBy w' r) (n : Nat) : w.grownBy (w'.drewN n) r := ⟨h.os, h.tape, h.output, h.size, h.block⟩
theorem gb_setCell {w w' : World} {G : Nat} (h : w.grownBy w' (some G)) (i : Nat) (v : Value) : w.grownBy (w'.setCell ⟨G, i, none⟩ v) (some G) :=
  ⟨h.os, h.tape, h.output, by have := h.size; simpa [World.setCell] using this, fun k hk hr => (Below.heap_setCell w' ⟨G, i, none⟩ v k (fun e => hr (by rw [e]))).trans (h.block k hk hr)⟩
theorem gb_trans {w w' w'' : World} {r : Option Nat} (h : w.grownBy w' r) (h' : w'.grownBy w'' r) : w.grownBy w'' r :=
  ⟨h'.os.trans h.os, h'.tape.trans h.tape, h'.output.trans h.output, Nat.le_trans h.size h'.size, fun k hk hr => (h'.block k (Nat.lt_of_lt_of_le hk h.size) hr).trans (h.block k hk hr)⟩
theorem gb_below {w w' : World} {r : Option Nat} (h : Below w.heap.size w w') : w.grownBy w' r :=
  ⟨h.os, h.tape, h.output, h.size, fun k hk _ => h.block k hk⟩

/-- What a refused part leaves. -/
def Refused (w : World) (G : Nat) (gen : Int) (A : Option Addr) (L C : Nat) (e : Ending) (w' : World) : Prop :=
  e = .returned (.tuple #[.slice none 0 0, .bool false]) ∧ w.grownBy w' (some G) ∧ Gath w' G gen A L C false

set_option maxHeartbeats 2000000 in
set_option maxRecDepth 100000 in
/-- A part that continues nothing, the list being closed: refused, and the list stays closed. -/
theorem add_shut (G : Nat) (gen g : Int) (A : Option Addr) (L C : Nat) (s : ByteArray) (mo : Bool) (v : Value) (most : Int) (w : World) (hG : Gath w G gen A L C false) (hs : s.toList.isEmpty = false) :
    Calls Try.prog 43 #[.pointer (some ⟨G, 0, none⟩), .int .u64 g, .agg #[.string s, .bool mo], v, .int .i64 most] w
      fun e w' => Refused w G gen A L C e w' := by
  have c1 := hG.c1
  have c2 := hG.c2
  have f2 := hG.free 2
  have hlt := hG.lt
  by_cases hm : most < (L : Int)
  all_goals
    go_enter Try.func43, Try.ntmps43
    go_wp2
    go_quiet (fail)
    have h2 := (((hG.alloc (Obj.cells #[Value.string s, Value.bool mo] 64)).drewN nq).s2 false)
    have h3 := h2.s2 false
    have gb := gb_setCell (gb_drewN (gb_alloc (gb_refl w (some G)) (Obj.cells #[Value.string s, Value.bool mo] 64)) nq) 2 (.bool false)
    have gb2 := gb_setCell gb 2 (.bool false)
    have H2 : Hid (Gath _ G gen A L C false) := h2
    have H3 : Hid (Gath _ G gen A L C false) := h3
    have HG : Hid (w.grownBy _ (some G)) := gb
    have HG2 : Hid (w.grownBy _ (some G)) := gb2
    have c3 := h3.c2
    clear gb gb2 h2 h3
    go_wp2
    go_ret2
    first
      | exact ⟨rfl, HG.out, H2.out⟩
      | exact ⟨rfl, HG2.out, H3.out⟩

end Go.Proofs.Qxb6602261a
