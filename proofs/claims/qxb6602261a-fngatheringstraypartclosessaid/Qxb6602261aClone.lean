/-
  Seat b6602261a. The contracts of 'zzb1Clone', 'zzb1CloneU64', 'zzb1CloneBools': a copy in new memory; nothing old has turned.
-/
import Derived.Test.Qxb6602261aSize
import Derived.Deep.OwnRows
namespace Go.Proofs.Qxb6602261a
open Go.RowKit

theorem Try.info9 : (Try.prog.info? 9).map (fun i => (i.zero, i.size, i.bytes)) = some (some (.string { data := #[] }), 1, 16) := by kernel_rfl
theorem Try.info43 : (Try.prog.info? 43).map (fun i => (i.zero, i.size, i.bytes)) = some (some (.int .u64 0), 1, 8) := by kernel_rfl
theorem Try.info4 : (Try.prog.info? 4).map (fun i => (i.zero, i.size, i.bytes)) = some (some (.bool false), 1, 1) := by kernel_rfl
theorem Try.info33 : (Try.prog.info? 33).map (fun i => (i.zero, i.size, i.bytes)) = some (some (.slice none 0 0), 1, 24) := by kernel_rfl

/-- The n cells behind the slice's address hold 'f 0' to 'f (n - 1)'. -/
def RowAt (w : World) (a : Option Addr) (n : Nat) (f : Nat → Value) : Prop :=
  ∀ i, i < n → ∃ b off, a = some ⟨b, off, none⟩ ∧ w.cell? ⟨b, off + i, none⟩ = some (f i)

theorem RowAt.below {w w' : World} {a : Option Addr} {n : Nat} {f : Nat → Value} (h : RowAt w a n f) (hb : Below w.heap.size w w') : RowAt w' a n f := by
  intro i hi
  obtain ⟨b, off, rfl, hc⟩ := h i hi
  exact ⟨b, off, rfl, (hb.cell (p := ⟨b, off + i, none⟩) (block_lt_of_cell hc)).trans hc⟩

/-- What the copying loop knows: k cells are copied. -/
def Copied (w : World) (e : TypeId) (n : Nat) (f : Nat → Value) (z : Value) (k : Nat) (wr : World) : Prop :=
  wr.rowIs w.heap.size e n (fun j => if j < k then f j else z) ∧ Below w.heap.size w wr

theorem Copied.start (w : World) (e : TypeId) (n : Nat) (f : Nat → Value) (z : Value) : Copied w e n f z 0 (w.alloc (.cells (madeCells #[z] n) e)) :=
  ⟨(World.rowIs_made w z n e).congr (fun i _ => by simp), (Below.refl _ _).alloc (Nat.le_refl _) _⟩

theorem Copied.step {w : World} {e : TypeId} {n : Nat} {f : Nat → Value} {z : Value} {k : Nat} {wr : World} (h : Copied w e n f z k wr) : Copied w e n f z (k + 1) (wr.setCell ⟨w.heap.size, k, none⟩ (f k)) := by
  refine ⟨(h.1.set k (f k)).congr (fun i _ => ?_), h.2.setCell (Nat.le_refl _) _⟩
  by_cases e1 : i = k
  · subst e1; simp
  · by_cases e2 : i < k
    · simp [e1, e2, Nat.lt_succ_of_lt e2]
    · rw [if_neg e1, if_neg e2, if_neg (by omega)]

theorem Copied.done {w : World} {e : TypeId} {n : Nat} {f : Nat → Value} {z : Value} {wr : World} (h : Copied w e n f z n wr) : RowAt wr (some ⟨w.heap.size, 0, none⟩) n f := by
  intro i hi
  refine ⟨_, _, rfl, ?_⟩
  rw [Nat.zero_add, h.1.cell hi, if_pos hi]

/-- What a clone hands back. -/
def Cloned (w : World) (n : Nat) (f : Nat → Value) (e : Ending) (w' : World) : Prop :=
  ∃ a' c', e = .returned (.slice a' n c') ∧ RowAt w' a' n f ∧ Below w.heap.size w w' ∧ (a' = none → n = 0 ∧ c' = 0) ∧ (∀ x, a' = some x → w.heap.size ≤ x.block ∧ x.block < w'.heap.size)

set_option maxHeartbeats 1000000 in
set_option maxRecDepth 100000 in
theorem clone_any (a : Option Addr) (n c : Nat) (S : Nat → ByteArray) (w : World) (hS : RowAt w a n (fun i => .string (S i))) (hn : n ≤ 1048576) (hz : a = none → n = 0 ∧ c = 0) :
    Calls Try.prog 21 #[.slice a n c] w fun e w' => Cloned w n (fun i => .string (S i)) e w' := by
  have q : ∀ (w : World) (a : Option Addr) (n c n' c' : Nat), (binOp .eql 33 (.slice a n c) (.slice none n' c')).run Try.prog w = .ok (.bool a.isNone) w := fun w a n c n' c' => Lib.run_eql_slice_nil w _ _ a n c n' c' Try.underlying33
  match a, hz, hS with
  | none, hz, hS =>
    obtain ⟨rfl, rfl⟩ := hz rfl
    go_enter Try.func21, Try.ntmps21
    go_wp2
    go_ret
    exact ⟨none, 0, rfl, fun i hi => by omega, Below.refl _ _, fun _ => ⟨rfl, rfl⟩, fun x hx => by cases hx⟩
  | some x, hz, hS =>
    clear hz
    have hmk := fun (w : World) => run_make_row' (P := Try.prog) 33 9 (.string { data := #[] }) 16 Try.underlying33 Try.info9 rfl .i64 .i64 n (by omega) (by omega) w
    have HS : Hid (RowAt w (some x) n (fun i => .string (S i))) := hS
    clear hS
    go_enter Try.func21, Try.ntmps21
    go_wp2
    go_loopw [4] (fun i wr => ∃ k : Nat, k ≤ n ∧ i = .int .i64 k ∧ Copied w 9 n (fun i => .string (S i)) (.string { data := #[] }) k wr) (fun i _ => n - (intOf i).toNat)
    case atStart => exact ⟨0, Nat.zero_le _, rfl, Copied.start _ _ _ _ _⟩
    case round =>
      obtain ⟨k, hk, rfl, hcp⟩ := hrel
      by_cases hlt : k < n
      · obtain ⟨b, off, hxe, hc⟩ := HS.out k hlt
        simp only [Option.some.injEq] at hxe
        subst hxe
        have hcx : wr.cell? ⟨b, off + k, none⟩ = some (.string (S k)) := (hcp.2.cell (p := ⟨b, off + k, none⟩) (block_lt_of_cell hc)).trans hc
        have hown := hcp.1.cell (i := k) hlt
        have hfz := hcp.1.frozen k
        have hst := hcp.step
        have HC : Hid (Copied w 9 n (fun i => .string (S i)) (.string { data := #[] }) (k + 1) (wr.setCell ⟨w.heap.size, k, none⟩ (.string (S k)))) := hst
        clear hst hcp
        simp only [Nat.lt_irrefl, if_false] at hown
        go_wp2
        go_roundw
        case rel => exact ⟨k + 1, by omega, by go_num, HC.out⟩
        case measure => simp [intOf]; omega
      · have ek : k = n := by omega
        subst ek
        go_wp2
        go_ret
        exact ⟨_, _, rfl, hcp.done, hcp.2, fun h => (by cases h), fun x hx => by cases hx; exact ⟨Nat.le_refl _, hcp.1.lt⟩⟩

set_option maxHeartbeats 1000000 in
set_option maxRecDepth 100000 in
theorem cloneU64_any (a : Option Addr) (n c : Nat) (Z : Nat → Int) (w : World) (hS : RowAt w a n (fun i => .int .u64 (Z i))) (hn : n ≤ 1048576) (hz : a = none → n = 0 ∧ c = 0) :
    Calls Try.prog 37 #[.slice a n c] w fun e w' => Cloned w n (fun i => .int .u64 (Z i)) e w' := by
  have q : ∀ (w : World) (a : Option Addr) (n c n' c' : Nat), (binOp .eql 53 (.slice a n c) (.slice none n' c')).run Try.prog w = .ok (.bool a.isNone) w := fun w a n c n' c' => Lib.run_eql_slice_nil w _ _ a n c n' c' Try.underlying53
  match a, hz, hS with
  | none, hz, hS =>
    obtain ⟨rfl, rfl⟩ := hz rfl
    go_enter Try.func37, Try.ntmps37
    go_wp2
    go_ret
    exact ⟨none, 0, rfl, fun i hi => by omega, Below.refl _ _, fun _ => ⟨rfl, rfl⟩, fun x hx => by cases hx⟩
  | some x, hz, hS =>
    clear hz
    have hmk := fun (w : World) => run_make_row' (P := Try.prog) 53 43 (.int .u64 0) 8 Try.underlying53 Try.info43 rfl .i64 .i64 n (by omega) (by omega) w
    have HS : Hid (RowAt w (some x) n (fun i => .int .u64 (Z i))) := hS
    clear hS
    go_enter Try.func37, Try.ntmps37
    go_wp2
    go_loopw [4] (fun i wr => ∃ k : Nat, k ≤ n ∧ i = .int .i64 k ∧ Copied w 43 n (fun i => .int .u64 (Z i)) (.int .u64 0) k wr) (fun i _ => n - (intOf i).toNat)
    case atStart => exact ⟨0, Nat.zero_le _, rfl, Copied.start _ _ _ _ _⟩
    case round =>
      obtain ⟨k, hk, rfl, hcp⟩ := hrel
      by_cases hlt : k < n
      · obtain ⟨b, off, hxe, hc⟩ := HS.out k hlt
        simp only [Option.some.injEq] at hxe
        subst hxe
        have hcx : wr.cell? ⟨b, off + k, none⟩ = some (.int .u64 (Z k)) := (hcp.2.cell (p := ⟨b, off + k, none⟩) (block_lt_of_cell hc)).trans hc
        have hown := hcp.1.cell (i := k) hlt
        have hfz := hcp.1.frozen k
        have hst := hcp.step
        have HC : Hid (Copied w 43 n (fun i => .int .u64 (Z i)) (.int .u64 0) (k + 1) (wr.setCell ⟨w.heap.size, k, none⟩ (.int .u64 (Z k)))) := hst
        clear hst hcp
        simp only [Nat.lt_irrefl, if_false] at hown
        go_wp2
        go_roundw
        case rel => exact ⟨k + 1, by omega, by go_num, HC.out⟩
        case measure => simp [intOf]; omega
      · have ek : k = n := by omega
        subst ek
        go_wp2
        go_ret
        exact ⟨_, _, rfl, hcp.done, hcp.2, fun h => (by cases h), fun x hx => by cases hx; exact ⟨Nat.le_refl _, hcp.1.lt⟩⟩

set_option maxHeartbeats 1000000 in
set_option maxRecDepth 100000 in
theorem cloneBools_any (a : Option Addr) (n c : Nat) (Z : Nat → Bool) (w : World) (hS : RowAt w a n (fun i => .bool (Z i))) (hn : n ≤ 1048576) (hz : a = none → n = 0 ∧ c = 0) :
    Calls Try.prog 38 #[.slice a n c] w fun e w' => Cloned w n (fun i => .bool (Z i)) e w' := by
  have q : ∀ (w : World) (a : Option Addr) (n c n' c' : Nat), (binOp .eql 54 (.slice a n c) (.slice none n' c')).run Try.prog w = .ok (.bool a.isNone) w := fun w a n c n' c' => Lib.run_eql_slice_nil w _ _ a n c n' c' Try.underlying54
  match a, hz, hS with
  | none, hz, hS =>
    obtain ⟨rfl, rfl⟩ := hz rfl
    go_enter Try.func38, Try.ntmps38
    go_wp2
    go_ret
    exact ⟨none, 0, rfl, fun i hi => by omega, Below.refl _ _, fun _ => ⟨rfl, rfl⟩, fun x hx => by cases hx⟩
  | some x, hz, hS =>
    clear hz
    have hmk := fun (w : World) => run_make_row' (P := Try.prog) 54 4 (.bool false) 1 Try.underlying54 Try.info4 rfl .i64 .i64 n (by omega) (by omega) w
    have HS : Hid (RowAt w (some x) n (fun i => .bool (Z i))) := hS
    clear hS
    go_enter Try.func38, Try.ntmps38
    go_wp2
    go_loopw [4] (fun i wr => ∃ k : Nat, k ≤ n ∧ i = .int .i64 k ∧ Copied w 4 n (fun i => .bool (Z i)) (.bool false) k wr) (fun i _ => n - (intOf i).toNat)
    case atStart => exact ⟨0, Nat.zero_le _, rfl, Copied.start _ _ _ _ _⟩
    case round =>
      obtain ⟨k, hk, rfl, hcp⟩ := hrel
      by_cases hlt : k < n
      · obtain ⟨b, off, hxe, hc⟩ := HS.out k hlt
        simp only [Option.some.injEq] at hxe
        subst hxe
        have hcx : wr.cell? ⟨b, off + k, none⟩ = some (.bool (Z k)) := (hcp.2.cell (p := ⟨b, off + k, none⟩) (block_lt_of_cell hc)).trans hc
        have hown := hcp.1.cell (i := k) hlt
        have hfz := hcp.1.frozen k
        have hst := hcp.step
        have HC : Hid (Copied w 4 n (fun i => .bool (Z i)) (.bool false) (k + 1) (wr.setCell ⟨w.heap.size, k, none⟩ (.bool (Z k)))) := hst
        clear hst hcp
        simp only [Nat.lt_irrefl, if_false] at hown
        go_wp2
        go_roundw
        case rel => exact ⟨k + 1, by omega, by go_num, HC.out⟩
        case measure => simp [intOf]; omega
      · have ek : k = n := by omega
        subst ek
        go_wp2
        go_ret
        exact ⟨_, _, rfl, hcp.done, hcp.2, fun h => (by cases h), fun x hx => by cases hx; exact ⟨Nat.le_refl _, hcp.1.lt⟩⟩
end Go.Proofs.Qxb6602261a
