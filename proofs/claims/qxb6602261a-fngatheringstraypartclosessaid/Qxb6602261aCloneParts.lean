/-
  Seat b6602261a. The contract of 'zzb1CloneParts': a slice of as many slices comes back, in new memory; nothing old has turned.
-/
import Derived.Test.Qxb6602261aClone
namespace Go.Proofs.Qxb6602261a
open Go.RowKit

/-- A slice value. -/
def IsSl (v : Value) : Prop := ∃ A L C, v = .slice A L C

/-- What the loop knows of its row of slices. -/
def PartRow (w : World) (n : Nat) (wr : World) : Prop :=
  ∃ f : Nat → Value, (∀ j, IsSl (f j)) ∧ wr.rowIs w.heap.size 33 n f ∧ Below w.heap.size w wr

theorem PartRow.start (w : World) (n : Nat) : PartRow w n (w.alloc (.cells (madeCells #[.slice none 0 0] n) 33)) :=
  ⟨_, fun _ => ⟨none, 0, 0, rfl⟩, World.rowIs_made w _ n 33, (Below.refl _ _).alloc (Nat.le_refl _) _⟩

theorem PartRow.below {w wr w1 : World} {n : Nat} (h : PartRow w n wr) (hb : Below wr.heap.size wr w1) : PartRow w n w1 := by
  obtain ⟨f, hf, hr, hw⟩ := h
  exact ⟨f, hf, hr.of_block (hb.block _ hr.lt), hw.trans (hb.mono hw.size)⟩

theorem PartRow.store {w wr : World} {n : Nat} (h : PartRow w n wr) (k : Nat) (A : Option Addr) (L C : Nat) : PartRow w n (wr.setCell ⟨w.heap.size, k, none⟩ (.slice A L C)) := by
  obtain ⟨f, hf, hr, hw⟩ := h
  refine ⟨_, fun j => ?_, hr.set k _, hw.setCell (Nat.le_refl _) _⟩
  by_cases e : j = k
  · simp only [if_pos e]; exact ⟨_, _, _, rfl⟩
  · simp only [if_neg e]; exact hf j

theorem PartRow.cellAt {w wr : World} {n : Nat} (h : PartRow w n wr) {k : Nat} (hk : k < n) : ∃ A L C, wr.cell? ⟨w.heap.size, k, none⟩ = some (.slice A L C) := by
  obtain ⟨f, hf, hr, _⟩ := h
  obtain ⟨A, L, C, e⟩ := hf k
  exact ⟨A, L, C, by rw [hr.cell hk, e]⟩

theorem PartRow.frozenAt {w wr : World} {n : Nat} (h : PartRow w n wr) (k : Nat) : wr.frozen? ⟨w.heap.size, k, none⟩ = false := by
  obtain ⟨f, _, hr, _⟩ := h
  exact hr.frozen k

theorem PartRow.lt {w wr : World} {n : Nat} (h : PartRow w n wr) : w.heap.size < wr.heap.size := by
  obtain ⟨f, _, hr, _⟩ := h
  exact hr.lt

/-- What the clone hands back: n slices. -/
def ClonedParts (w : World) (n : Nat) (e : Ending) (w' : World) : Prop :=
  ∃ a' c', e = .returned (.slice a' n c') ∧ (∃ f : Nat → Value, (∀ j, IsSl (f j)) ∧ RowAt w' a' n f) ∧ Below w.heap.size w w' ∧ (∀ x, a' = some x → x.block < w'.heap.size)

theorem PartRow.done {w wr : World} {n : Nat} (h : PartRow w n wr) : ClonedParts w n (.returned (.slice (some ⟨w.heap.size, 0, none⟩) n n)) wr := by
  have hl := h.lt
  obtain ⟨f, hf, hr, hw⟩ := h
  refine ⟨_, _, rfl, ⟨f, hf, fun i hi => ⟨_, _, rfl, ?_⟩⟩, hw, fun x hx => by cases hx; exact hl⟩
  rw [Nat.zero_add, hr.cell hi]

set_option maxHeartbeats 1000000 in
set_option maxRecDepth 100000 in
theorem cloneParts_any (a : Option Addr) (n c : Nat) (A : Nat → Option Addr) (L C : Nat → Nat) (S : Nat → Nat → ByteArray) (w : World) (hS : PartsAt w a n A L C S) (hn : n ≤ 1048576)
    (hL : ∀ i, i < n → L i ≤ 1048576) (hz : a = none → n = 0 ∧ c = 0)
    (hzi : ∀ i, i < n → A i = none → L i = 0 ∧ C i = 0) :
    Calls Try.prog 35 #[.slice a n c] w fun e w' => ClonedParts w n e w' := by
  have q : ∀ (w : World) (a : Option Addr) (n c n' c' : Nat), (binOp .eql 49 (.slice a n c) (.slice none n' c')).run Try.prog w = .ok (.bool a.isNone) w := fun w a n c n' c' => Lib.run_eql_slice_nil w _ _ a n c n' c' Try.underlying49
  match a, hz, hS with
  | none, hz, hS =>
    obtain ⟨rfl, rfl⟩ := hz rfl
    clear hL hzi
    go_enter Try.func35, Try.ntmps35
    go_wp2
    go_ret
    exact ⟨none, 0, rfl, ⟨fun _ => .slice none 0 0, fun _ => ⟨_, _, _, rfl⟩, fun i hi => by omega⟩, Below.refl _ _, fun x hx => by cases hx⟩
  | some x, hz, hS =>
    clear hz
    have hmk := fun (w : World) => run_make_row' (P := Try.prog) 49 33 (.slice none 0 0) 24 Try.underlying49 Try.info33 rfl .i64 .i64 n (by omega) (by omega) w
    have HS : Hid (PartsAt w (some x) n A L C S) := hS
    have HL : Hid (∀ i, i < n → L i ≤ 1048576) := hL
    have HZ : Hid (∀ i, i < n → A i = none → L i = 0 ∧ C i = 0) := hzi
    clear hS hL hzi
    go_enter Try.func35, Try.ntmps35
    go_wp2
    go_loopw [4] (fun i wr => ∃ k : Nat, k ≤ n ∧ i = .int .i64 k ∧ PartRow w n wr) (fun i _ => n - (intOf i).toNat)
    case atStart => exact ⟨0, Nat.zero_le _, rfl, PartRow.start _ _⟩
    case round =>
      obtain ⟨k, hk, rfl, hcp⟩ := hrel
      by_cases hlt : k < n
      · obtain ⟨b, off, hxe, hc, hLm, hst⟩ := HS.out k hlt
        simp only [Option.some.injEq] at hxe
        subst hxe
        have hbel : Below w.heap.size w wr := by obtain ⟨_, _, _, h⟩ := hcp; exact h
        have hcx : wr.cell? ⟨b, off + k, none⟩ = some (.slice (A k) (L k) (C k)) := (hbel.cell (p := ⟨b, off + k, none⟩) (block_lt_of_cell hc)).trans hc
        have hin : RowAt wr (A k) (L k) (fun i => .string (S k i)) := RowAt.below (fun i hi => by obtain ⟨b, o, e, h, _⟩ := hst i hi; exact ⟨b, o, e, h⟩) hbel
        have HIN : Hid (RowAt wr (A k) (L k) (fun i => .string (S k i))) := hin
        have HP : Hid (PartRow w n wr) := hcp
        clear hst hcp hc hin hbel
        go_wp2_with (go_at_call 21; refine (clone_any _ _ _ _ _ HIN.out (HL.out k hlt) (HZ.out k hlt)).mono ?_; rintro e w1 ⟨a1, c1, rfl, _, hb1, _, _⟩; have hp1 := HP.out.below hb1; obtain ⟨A1, L1, C1, hcell1⟩ := hp1.cellAt hlt; have hfz1 := hp1.frozenAt k; have HP1 : Hid (PartRow w n (w1.setCell ⟨w.heap.size, k, none⟩ (.slice a1 (L k) c1))) := hp1.store k a1 (L k) c1; clear hp1 hb1)
        go_roundw
        case rel => exact ⟨k + 1, by omega, by go_num, HP1.out⟩
        case measure => simp [intOf]; omega
      · go_wp2
        go_ret
        exact hcp.done
end Go.Proofs.Qxb6602261a
