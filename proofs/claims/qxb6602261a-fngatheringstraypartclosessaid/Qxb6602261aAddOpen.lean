/-
  Seat b6602261a. '(*gathering).add' on an open list, at a part that does not continue it; and at a first part.
-/
import Derived.Test.Qxb6602261aAdd
namespace Go.Proofs.Qxb6602261a
open Go.RowKit

theorem wrap_small (l : Nat) (h : l ≤ 1048576) : IntKind.i64.wrap (l : Int) = (l : Int) := by
  rw [IntKind.wrap_i64]; omega

set_option maxHeartbeats 2000000 in
set_option maxRecDepth 100000 in
/-- Another generation. -/
theorem add_gen (G : Nat) (gen g : Int) (A : Option Addr) (L C : Nat) (s : ByteArray) (mo : Bool) (v : Value) (most : Int) (w : World) (hG : Gath w G gen A L C true) (hs : s.toList.isEmpty = false) (hg : (g == gen) = false) :
    Calls Try.prog 43 #[.pointer (some ⟨G, 0, none⟩), .int .u64 g, .agg #[.string s, .bool mo], v, .int .i64 most] w
      fun e w' => Refused w G gen A L C e w' := by
  have c0 := hG.c0
  have c1 := hG.c1
  have c2 := hG.c2
  have f2 := hG.free 2
  have hlt := hG.lt
  by_cases hm : most < (L : Int)
  all_goals
    go_enter Try.func43, Try.ntmps43
    go_wp2
    go_quiet (fail)
    have h2 := (((hG.alloc (Obj.cells #[Value.string s, Value.bool mo] 64)).drewN nq).s2 false)
    have h3 := h2.s2 false
    have gb := gb_setCell (gb_drewN (gb_alloc (gb_refl w (some G)) (Obj.cells #[Value.string s, Value.bool mo] 64)) nq) 2 (.bool false)
    have gb2 := gb_setCell gb 2 (.bool false)
    have H2 : Hid (Gath _ G gen A L C false) := h2
    have H3 : Hid (Gath _ G gen A L C false) := h3
    have HG : Hid (w.grownBy _ (some G)) := gb
    have HG2 : Hid (w.grownBy _ (some G)) := gb2
    have c3 := h3.c2
    clear gb gb2 h2 h3
    go_wp2
    go_ret2
    first
      | exact ⟨rfl, HG.out, H2.out⟩
      | exact ⟨rfl, HG2.out, H3.out⟩

set_option maxHeartbeats 2000000 in
set_option maxRecDepth 100000 in
/-- An empty list so far. -/
theorem add_none (G : Nat) (gen : Int) (A : Option Addr) (C : Nat) (s : ByteArray) (mo : Bool) (v : Value) (most : Int) (w : World) (hG : Gath w G gen A 0 C true) (hs : s.toList.isEmpty = false) :
    Calls Try.prog 43 #[.pointer (some ⟨G, 0, none⟩), .int .u64 gen, .agg #[.string s, .bool mo], v, .int .i64 most] w
      fun e w' => Refused w G gen A 0 C e w' := by
  have c0 := hG.c0
  have c1 := hG.c1
  have c2 := hG.c2
  have f2 := hG.free 2
  have hlt := hG.lt
  by_cases hm : most < 0
  all_goals
    go_enter Try.func43, Try.ntmps43
    go_wp2
    go_quiet (fail)
    have h2 := (((hG.alloc (Obj.cells #[Value.string s, Value.bool mo] 64)).drewN nq).s2 false)
    have h3 := h2.s2 false
    have gb := gb_setCell (gb_drewN (gb_alloc (gb_refl w (some G)) (Obj.cells #[Value.string s, Value.bool mo] 64)) nq) 2 (.bool false)
    have gb2 := gb_setCell gb 2 (.bool false)
    have H2 : Hid (Gath _ G gen A 0 C false) := h2
    have H3 : Hid (Gath _ G gen A 0 C false) := h3
    have HG : Hid (w.grownBy _ (some G)) := gb
    have HG2 : Hid (w.grownBy _ (some G)) := gb2
    have c3 := h3.c2
    clear gb gb2 h2 h3
    go_wp2
    go_ret2
    first
      | exact ⟨rfl, HG.out, H2.out⟩
      | exact ⟨rfl, HG2.out, H3.out⟩

set_option maxHeartbeats 2000000 in
set_option maxRecDepth 100000 in
/-- Another name. -/
theorem add_name (G : Nat) (gen : Int) (b off : Nat) (l C : Nat) (t : ByteArray) (s : ByteArray) (mo : Bool) (v : Value) (most : Int) (w : World) (hl : l + 1 ≤ 1048576) (hG : Gath w G gen (some ⟨b, off, none⟩) (l + 1) C true) (hs : s.toList.isEmpty = false)
    (hbl : b < w.heap.size) (hc : w.cell? ⟨b, off + l, none⟩ = some (.string t)) (hne : (s.toList == t.toList) = false) :
    Calls Try.prog 43 #[.pointer (some ⟨G, 0, none⟩), .int .u64 gen, .agg #[.string s, .bool mo], v, .int .i64 most] w
      fun e w' => Refused w G gen (some ⟨b, off, none⟩) (l + 1) C e w' := by
  have c0 := hG.c0
  have c1 := hG.c1
  have c2 := hG.c2
  have f2 := hG.free 2
  have hlt := hG.lt
  have hi : (0 : Int) < ((l + 1 : Nat) : Int) := by omega
  have hi0 : (0 : Int) ≤ (l : Int) := by omega
  have hi1 : (l : Int) < (l : Int) + 1 := by omega
  have hw := wrap_small l (by omega)
  by_cases hm : most < ((l + 1 : Nat) : Int)
  all_goals
    go_enter Try.func43, Try.ntmps43
    go_wp2
    go_quiet (fail)
    have h2 := (((hG.alloc (Obj.cells #[Value.string s, Value.bool mo] 64)).drewN nq).s2 false)
    have h3 := h2.s2 false
    have gb := gb_setCell (gb_drewN (gb_alloc (gb_refl w (some G)) (Obj.cells #[Value.string s, Value.bool mo] 64)) nq) 2 (.bool false)
    have gb2 := gb_setCell gb 2 (.bool false)
    have H2 : Hid (Gath _ G gen (some ⟨b, off, none⟩) (l + 1) C false) := h2
    have H3 : Hid (Gath _ G gen (some ⟨b, off, none⟩) (l + 1) C false) := h3
    have HG : Hid (w.grownBy _ (some G)) := gb
    have HG2 : Hid (w.grownBy _ (some G)) := gb2
    have c3 := h3.c2
    clear gb gb2 h2 h3
    go_wp2
    go_ret2
    first
      | exact ⟨rfl, HG.out, H2.out⟩
      | exact ⟨rfl, HG2.out, H3.out⟩

end Go.Proofs.Qxb6602261a
