/-
  Seat b6602355a. The contract of the package's 'Excerpt'.
-/
import Derived.Test.Qxb6602355aScan
import Derived.Laws.RangeAny
import Derived.Lib.OthersKept
namespace Go.Proofs.Qxb6602355a
open Go.RowKit

theorem decode_pos (s : ByteArray) (pos : Nat) (h : pos < s.size) : 1 ≤ (Utf8.decode s pos).2 := by
  by_cases ha : (s[pos]'h).toNat < 128
  · rw [decode_ascii s pos h ha]
    exact Nat.le_refl _
  · exact (decode_high s pos h (by omega)).2

theorem exc_cut (s : ByteArray) (p : Nat) (h : cutF s 64 0 = some p) : s.extract 0 p ++ ⟨#[226, 128, 166]⟩ = ⟨(excB s).toArray⟩ := by
  unfold excB
  rw [h]
  apply ByteArray.ext
  apply Array.ext'
  simp

theorem exc_whole (s : ByteArray) (h : cutF s 64 0 = none) : s = ⟨(excB s).toArray⟩ := by
  unfold excB
  rw [h]

theorem cut_step (s : ByteArray) (k pos : Nat) (hk : k ≤ 64) (h64 : ¬ k = 64) (hp : pos < s.size) (h : cutF s (64 - k) pos = cutF s 64 0) : cutF s (64 - (k + 1)) (pos + (Utf8.decode s pos).2) = cutF s 64 0 := by
  rw [← h]
  obtain ⟨m, e⟩ : ∃ m, 64 - k = m + 1 := ⟨63 - k, by omega⟩
  have e2 : 64 - (k + 1) = m := by omega
  rw [e, e2]
  show _ = (if pos < s.size then cutF s m (pos + (Utf8.decode s pos).2) else none)
  rw [if_pos hp]

theorem cut_here (s : ByteArray) (pos : Nat) (hp : pos < s.size) (h : cutF s (64 - 64) pos = cutF s 64 0) : cutF s 64 0 = some pos := by
  rw [← h]
  show (if pos < s.size then some pos else none) = _
  rw [if_pos hp]

theorem cut_none (s : ByteArray) (n pos : Nat) (hp : ¬ pos < s.size) : cutF s n pos = none := by
  cases n with
  | zero => exact if_neg hp
  | succ n => exact if_neg hp

theorem below_iter (w : World) (s : ByteArray) (pos : Nat) : Below w.heap.size w (w.iter s pos) := (Below.refl _ w).alloc (Nat.le_refl _) _

theorem ret_str {a b : ByteArray} (h : a = b) : Ending.returned (.string a) = .returned (.string b) := by rw [h]

set_option maxHeartbeats 1000000 in
set_option maxRecDepth 100000 in
theorem excerpt_any (s : ByteArray) (w : World) (hs : s.size ≤ 1048576) :
    Calls Try.prog 26 #[.string s] w fun e w' => e = .returned (.string ⟨(excB s).toArray⟩) ∧ Below w.heap.size w w' := by
  go_enter Try.func26, Try.ntmps26
  go_wp2
  go_loopw [3] (fun n wr => ∃ k pos : Nat, k ≤ 64 ∧ n = .int .i64 k ∧ wr = w.iter s pos ∧ Hid (cutF s (64 - k) pos = cutF s 64 0)) (fun _ wr => s.size - wr.iterPos w.heap.size)
  case atStart => exact ⟨0, 0, Nat.zero_le _, rfl, rfl, rfl⟩
  case round =>
    obtain ⟨k, pos, hk, rfl, rfl, hcut⟩ := hrel
    by_cases hp : pos < s.size
    · have hnx : ∀ ty, (Instr.next (.pointer (some ⟨w.heap.size, 0, none⟩)) true ty).run Try.prog (w.iter s pos) = _ := fun ty => run_next_any w s pos ty hp
      have hwd := decode_pos s pos hp
      by_cases h64 : k = 64
      · subst h64
        go_wp2
        go_ret
        exact ⟨ret_str (exc_cut s pos (cut_here s pos hp hcut.out)), below_iter w s _⟩
      · go_wp2
        go_roundw
        case rel => exact ⟨k + 1, pos + (Utf8.decode s pos).2, by omega, by go_num, rfl, cut_step s k pos hk h64 hp hcut.out⟩
        case measure => simp only [World.iterPos_iter]; omega
    · have hnx : ∀ ty, (Instr.next (.pointer (some ⟨w.heap.size, 0, none⟩)) true ty).run Try.prog (w.iter s pos) = _ := fun ty => Lib.run_next_end_at _ _ s pos ty (World.iter_heap w s pos) hp
      go_wp2
      go_ret
      exact ⟨ret_str (exc_whole s (by rw [← hcut.out]; exact cut_none s _ pos hp)), below_iter w s _⟩
end Go.Proofs.Qxb6602355a
