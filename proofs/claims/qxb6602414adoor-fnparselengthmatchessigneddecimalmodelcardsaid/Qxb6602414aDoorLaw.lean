/-
  Seat b6602414aD. The law's walk: whatever the row of bytes, it returns true; nothing old has turned.
-/
import Derived.Test.Qxb6602414aDoorHeader
import Derived.Deep.OwnRows
import Derived.Deep.WholeRow
import Derived.Laws.CopyOwn
import Derived.WalkSpells
namespace Go.Proofs.Qxb6602414aDoor
open Go.RowKit

theorem Tryd.info5 : (Tryd.prog.info? 5).map (fun i => (i.zero, i.size, i.bytes)) = some (some (.int .u8 0), 1, 1) := by kernel_rfl
theorem Tryd.size5 : (Tryd.prog.info? 5).map (·.size) = some 1 := by kernel_rfl

/-- A row's bytes as cells. -/
def cellsL (l : List UInt8) : List Value := l.map fun u => .int .u8 (u.toNat : Int)

theorem cellsL_length (l : List UInt8) : (cellsL l).length = l.length := by simp [cellsL]
theorem cellsL_at (l : List UInt8) (j : Nat) (h : j < l.length) : (cellsL l)[j]? = some (.int .u8 ((l.getD j 0).toNat : Int)) := by
  simp [cellsL, List.getElem?_eq_getElem h, List.getD]

/-- What the copy leaves: a new row with the argument's bytes. -/
theorem copy_row (w : World) (b off n c : Nat) (l : List UInt8) (hr : ByteRow w b off l) (hk : l.length = n) (h1 : 1 ≤ n) :
    ∃ w2, (∀ ty, (Builtin.copy_ #[22, 22] ty #[.slice (some ⟨w.heap.size, 0, none⟩) n n, .slice (some ⟨b, off, none⟩) n c]).run Tryd.prog (w.alloc (.cells (madeCells #[.int .u8 0] n) 5)) = .ok (.int .i64 (n : Int)) w2) ∧
      ByteRow w2 w.heap.size 0 l ∧ Below w.heap.size w w2 := by
  have hB : Below w.heap.size w (w.alloc (.cells (madeCells #[.int .u8 0] n) 5)) := (Below.refl _ w).alloc (Nat.le_refl _) _
  have hg : (w.alloc (.cells (madeCells #[.int .u8 0] n) 5)).heap[w.heap.size]? = some (.cells (madeCells #[.int .u8 0] n) 5 (0, 0)) := heap_alloc_new _ _
  have hb0 : b < w.heap.size := by have := block_lt_of_cell (hr 0 (by omega)); simpa using this
  have hrow := hr.below hB
  refine ⟨_, fun ty => by
    have := run_copy_row (P := Tryd.prog) (w.alloc (.cells (madeCells #[.int .u8 0] n) 5)) 22 22 ty 5 w.heap.size 0 n n ⟨b, off, none⟩ n c (madeCells #[.int .u8 0] n) 5 (cellsL l) Tryd.underlying22 Tryd.size5 hg
      (by rw [cellsL_length, hk]; simp) (fun j v hj => by
        have hlt : j < l.length := by
          have := (List.getElem?_eq_some_iff.1 hj).1
          rwa [cellsL_length] at this
        rw [cellsL_at l j hlt] at hj
        rw [Go.WideShapes.add_plain, hrow j hlt, hj]) (by rw [cellsL_length, hk, size_madeCells]; omega)
      (fun v hv => by
        obtain ⟨u, _, rfl⟩ := List.mem_map.1 hv
        rfl)
    rw [this, cellsL_length, hk]; rfl, ?_, below_setRow hB (Nat.le_refl _) _⟩
  intro i hi
  rw [cell_setRow_same _ _ _ _ _ _ _ hg]
  have hd : ((madeCells #[.int .u8 0] n).toList.drop n) = [] := by
    rw [List.drop_eq_nil_iff, Array.length_toList, size_madeCells]; omega
  have e : (0 + i) = i := Nat.zero_add i
  rw [e]
  first | rw [hd] | rw [Nat.zero_add, hd] | rw [Nat.zero_add, Nat.zero_add, hd]
  simp [cellsL_at l i hi]

set_option maxHeartbeats 1000000 in
set_option maxRecDepth 100000 in
theorem law_long (a : Option Addr) (n c : Nat) (w : World) (hn : (n : Int) ≤ 9223372036854775807) (h : 1048576 < n) :
    Calls Tryd.prog 5 #[.slice a n c] w fun e w' => e = .returned (.bool true) ∧ w' = w := by
  have hb : Hid (decide (n ≤ 1048576) = false) := decide_eq_false (by omega)
  go_enter Tryd.func5, Tryd.ntmps5
  go_wp2_with (go_at_call 13; refine (bytes_any a n c _ hn).mono ?_; rw [hb.out]; rintro e w1 ⟨rfl, rfl⟩)
  go_ret
  exact ⟨rfl, rfl⟩

set_option maxHeartbeats 1000000 in
set_option maxRecDepth 100000 in
theorem law_empty (a : Option Addr) (c : Nat) (w : World) :
    Calls Tryd.prog 5 #[.slice a 0 c] w fun e w' => e = .returned (.bool true) ∧ w' = w := by
  have hb : Hid (decide (0 ≤ 1048576) = true) := rfl
  go_enter Tryd.func5, Tryd.ntmps5
  go_wp2_with (go_at_call 13; refine (bytes_any a 0 c _ (by decide)).mono ?_; rw [hb.out]; rintro e w1 ⟨rfl, rfl⟩)
  go_ret
  exact ⟨rfl, rfl⟩

set_option maxHeartbeats 2000000 in
set_option maxRecDepth 100000 in
theorem law_row (b off n c : Nat) (l : List UInt8) (w : World) (hr : ByteRow w b off l) (hk : l.length = n) (h1 : 1 ≤ n) (hl : n ≤ 1048576) (e0 : ErrCell w 0) (e1 : ErrCell w 1) (hb2 : 2 ≤ w.heap.size) :
    Calls Tryd.prog 5 #[.slice (some ⟨b, off, none⟩) n c] w fun e w' => e = .returned (.bool true) ∧ Below w.heap.size w w' := by
  have hb : Hid (decide (n ≤ 1048576) = true) := decide_eq_true hl
  have qn : ∀ (w : World), (binOp .neq 22 (.slice (some ⟨b, off, none⟩) n c) (.slice none 0 0)).run Tryd.prog w = .ok (.bool true) w := fun w => run_neq_slice_nil_any w 22 _ (some ⟨b, off, none⟩) n c 0 0 Tryd.underlying22
  have hmk := fun (w : World) => run_make_row' (P := Tryd.prog) 22 5 (.int .u8 0) 1 Tryd.underlying22 Tryd.info5 rfl .i64 .i64 n (by omega) (by omega) w
  obtain ⟨w2, hcp, hrow, hbel⟩ := copy_row w b off n c l hr hk h1
  have H : Hid (ByteRow w2 w.heap.size 0 l ∧ l.length = n ∧ ErrCell w2 0 ∧ ErrCell w2 1 ∧ 2 ≤ w2.heap.size ∧ Below w.heap.size w w2) := ⟨hrow, hk, e0.below hbel (by omega), e1.below hbel (by omega), Nat.le_trans hb2 hbel.size, hbel⟩
  clear hr hk e0 e1 hrow hbel
  go_enter Tryd.func5, Tryd.ntmps5
  go_wp2_with (go_at_call 13; refine (bytes_any (some ⟨b, off, none⟩) n c _ (by omega)).mono ?_; rw [hb.out]; rintro e w1 ⟨rfl, rfl⟩)
  have bs := H.out.2.2.2.2.2
  refine (zzParse w1.heap.size 0 n l w2 H.out.1 H.out.2.1 h1 hl H.out.2.2.1 H.out.2.2.2.1 H.out.2.2.2.2.1).mono ?_
  rintro e w3 ⟨rfl, b3⟩
  have H3 : Hid (ByteRow w3 w1.heap.size 0 l ∧ l.length = n ∧ Below w1.heap.size w1 w3) := ⟨H.out.1.below b3, H.out.2.1, bs.trans (b3.mono bs.size)⟩
  clear H bs b3 hcp
  generalize hp : pl l = p
  obtain ⟨p1, p2⟩ := p
  have HP : Hid (pl l = (p1, p2)) := hp
  clear hp
  go_wp2_with fail
  refine (header_any w1.heap.size 0 n l w3 H3.out.1 H3.out.2.1 hl).mono ?_
  rw [HP.out]
  rintro e w4 ⟨rfl, rfl⟩
  go_wp2
  go_ret
  exact ⟨rfl, H3.out.2.2⟩
end Go.Proofs.Qxb6602414aDoor
