/-
  Seat b6602355a. 'utf8Width' at a first byte of four.
-/
import Derived.Test.Qxb6602355aWidth
namespace Go.Proofs.Qxb6602355a
open Go.RowKit

set_option maxHeartbeats 2000000 in
set_option maxRecDepth 100000 in
theorem width_240 (s : ByteArray) (p : Nat) (w : World) (hp : p < s.size) (hs : s.size ≤ 1048576) (h1 : (s[p].toNat : Int) = 240) :
    Calls Try.prog 41 #[.string s, .int .i64 p] w fun e w' => e = .returned (.int .i64 (((Utf8.decode s p).2 : Nat) : Int)) ∧ w' = w := by
  have hcl : Hid (C4 s[p].toNat 144 191) := by
    unfold C4 Hid
    omega
  by_cases hn : p + 4 ≤ s.size
  · have hn' : (p : Int) + 4 ≤ (s.size : Int) := by omega
    have i1 : p + 1 < s.size := by omega
    by_cases hlo : ((s[p + 1]).toNat : Int) < 144
    · have W : Hid ((Utf8.decode s p).2 = 1) := w4_snd s p 144 191 hp hcl.out hn (by omega)
      go_enter Try.func41, Try.ntmps41
      go_wp2
      go_ret
      exact ⟨ret_w (a := 1) W.out, rfl⟩
    · by_cases hhi : (191 : Int) < ((s[p + 1]).toNat : Int)
      · have W : Hid ((Utf8.decode s p).2 = 1) := w4_snd s p 144 191 hp hcl.out hn (by omega)
        go_enter Try.func41, Try.ntmps41
        go_wp2
        go_ret
        exact ⟨ret_w (a := 1) W.out, rfl⟩
      · have HB : Hid (144 ≤ (s[p + 1]).toNat ∧ (s[p + 1]).toNat ≤ 191) := ⟨by omega, by omega⟩
        go_enter Try.func41, Try.ntmps41
        go_wp2
        go_loop [9] (fun t => ∃ k : Nat, 2 ≤ k ∧ k ≤ 4 ∧ t = .int .i64 k ∧ Hid (ContTo s p k)) (fun t => 4 - (intOf t).toNat)
        case atStart => exact ⟨2, Nat.le_refl _, by omega, rfl, cont_start s p⟩
        case round =>
          obtain ⟨k, hk2, hkn, rfl, hct⟩ := hrel
          by_cases hlt : k < 4
          · have ik : p + k < s.size := by omega
            have ik' : (p : Int) + (k : Int) < (s.size : Int) := by omega
            by_cases ka : ((s[p + k]).toNat : Int) < 128
            · have W : Hid ((Utf8.decode s p).2 = 1) := w4_rest s p 144 191 k hp hcl.out ik hk2 hlt (.inl ka)
              go_wp2
              go_ret
              exact ⟨ret_w (a := 1) W.out, rfl⟩
            · by_cases kb : (191 : Int) < ((s[p + k]).toNat : Int)
              · have W : Hid ((Utf8.decode s p).2 = 1) := w4_rest s p 144 191 k hp hcl.out ik hk2 hlt (.inr kb)
                go_wp2
                go_ret
                exact ⟨ret_w (a := 1) W.out, rfl⟩
              · have HS : Hid (ContTo s p (k + 1)) := cont_step s p k ik ka kb hct.out
                go_wp2
                go_round
                case rel => exact ⟨k + 1, by omega, by omega, by go_num, HS.out⟩
                case measure => simp [intOf]; omega
          · obtain rfl : k = 4 := by omega
            have W : Hid ((Utf8.decode s p).2 = 4) := w4_yes s p 144 191 hp hcl.out hn HB.out hct.out
            go_wp2
            go_ret
            exact ⟨ret_w (a := 4) W.out, rfl⟩
  · have hn' : ¬ (p : Int) + 4 ≤ (s.size : Int) := by omega
    have W : Hid ((Utf8.decode s p).2 = 1) := w4_short s p 144 191 hp hcl.out hn
    go_enter Try.func41, Try.ntmps41
    go_wp2
    go_ret
    exact ⟨ret_w (a := 1) W.out, rfl⟩

set_option maxHeartbeats 2000000 in
set_option maxRecDepth 100000 in
theorem width_244 (s : ByteArray) (p : Nat) (w : World) (hp : p < s.size) (hs : s.size ≤ 1048576) (h1 : (s[p].toNat : Int) = 244) :
    Calls Try.prog 41 #[.string s, .int .i64 p] w fun e w' => e = .returned (.int .i64 (((Utf8.decode s p).2 : Nat) : Int)) ∧ w' = w := by
  have hcl : Hid (C4 s[p].toNat 128 143) := by
    unfold C4 Hid
    omega
  by_cases hn : p + 4 ≤ s.size
  · have hn' : (p : Int) + 4 ≤ (s.size : Int) := by omega
    have i1 : p + 1 < s.size := by omega
    by_cases hlo : ((s[p + 1]).toNat : Int) < 128
    · have W : Hid ((Utf8.decode s p).2 = 1) := w4_snd s p 128 143 hp hcl.out hn (by omega)
      go_enter Try.func41, Try.ntmps41
      go_wp2
      go_ret
      exact ⟨ret_w (a := 1) W.out, rfl⟩
    · by_cases hhi : (143 : Int) < ((s[p + 1]).toNat : Int)
      · have W : Hid ((Utf8.decode s p).2 = 1) := w4_snd s p 128 143 hp hcl.out hn (by omega)
        go_enter Try.func41, Try.ntmps41
        go_wp2
        go_ret
        exact ⟨ret_w (a := 1) W.out, rfl⟩
      · have HB : Hid (128 ≤ (s[p + 1]).toNat ∧ (s[p + 1]).toNat ≤ 143) := ⟨by omega, by omega⟩
        go_enter Try.func41, Try.ntmps41
        go_wp2
        go_loop [9] (fun t => ∃ k : Nat, 2 ≤ k ∧ k ≤ 4 ∧ t = .int .i64 k ∧ Hid (ContTo s p k)) (fun t => 4 - (intOf t).toNat)
        case atStart => exact ⟨2, Nat.le_refl _, by omega, rfl, cont_start s p⟩
        case round =>
          obtain ⟨k, hk2, hkn, rfl, hct⟩ := hrel
          by_cases hlt : k < 4
          · have ik : p + k < s.size := by omega
            have ik' : (p : Int) + (k : Int) < (s.size : Int) := by omega
            by_cases ka : ((s[p + k]).toNat : Int) < 128
            · have W : Hid ((Utf8.decode s p).2 = 1) := w4_rest s p 128 143 k hp hcl.out ik hk2 hlt (.inl ka)
              go_wp2
              go_ret
              exact ⟨ret_w (a := 1) W.out, rfl⟩
            · by_cases kb : (191 : Int) < ((s[p + k]).toNat : Int)
              · have W : Hid ((Utf8.decode s p).2 = 1) := w4_rest s p 128 143 k hp hcl.out ik hk2 hlt (.inr kb)
                go_wp2
                go_ret
                exact ⟨ret_w (a := 1) W.out, rfl⟩
              · have HS : Hid (ContTo s p (k + 1)) := cont_step s p k ik ka kb hct.out
                go_wp2
                go_round
                case rel => exact ⟨k + 1, by omega, by omega, by go_num, HS.out⟩
                case measure => simp [intOf]; omega
          · obtain rfl : k = 4 := by omega
            have W : Hid ((Utf8.decode s p).2 = 4) := w4_yes s p 128 143 hp hcl.out hn HB.out hct.out
            go_wp2
            go_ret
            exact ⟨ret_w (a := 4) W.out, rfl⟩
  · have hn' : ¬ (p : Int) + 4 ≤ (s.size : Int) := by omega
    have W : Hid ((Utf8.decode s p).2 = 1) := w4_short s p 128 143 hp hcl.out hn
    go_enter Try.func41, Try.ntmps41
    go_wp2
    go_ret
    exact ⟨ret_w (a := 1) W.out, rfl⟩

set_option maxHeartbeats 2000000 in
set_option maxRecDepth 100000 in
theorem width_4 (s : ByteArray) (p : Nat) (w : World) (hp : p < s.size) (hs : s.size ≤ 1048576) (h1 : 241 ≤ (s[p].toNat : Int)) (h2 : (s[p].toNat : Int) ≤ 243) :
    Calls Try.prog 41 #[.string s, .int .i64 p] w fun e w' => e = .returned (.int .i64 (((Utf8.decode s p).2 : Nat) : Int)) ∧ w' = w := by
  have hcl : Hid (C4 s[p].toNat 128 191) := by
    unfold C4 Hid
    omega
  by_cases hn : p + 4 ≤ s.size
  · have hn' : (p : Int) + 4 ≤ (s.size : Int) := by omega
    have i1 : p + 1 < s.size := by omega
    by_cases hlo : ((s[p + 1]).toNat : Int) < 128
    · have W : Hid ((Utf8.decode s p).2 = 1) := w4_snd s p 128 191 hp hcl.out hn (by omega)
      go_enter Try.func41, Try.ntmps41
      go_wp2
      go_ret
      exact ⟨ret_w (a := 1) W.out, rfl⟩
    · by_cases hhi : (191 : Int) < ((s[p + 1]).toNat : Int)
      · have W : Hid ((Utf8.decode s p).2 = 1) := w4_snd s p 128 191 hp hcl.out hn (by omega)
        go_enter Try.func41, Try.ntmps41
        go_wp2
        go_ret
        exact ⟨ret_w (a := 1) W.out, rfl⟩
      · have HB : Hid (128 ≤ (s[p + 1]).toNat ∧ (s[p + 1]).toNat ≤ 191) := ⟨by omega, by omega⟩
        go_enter Try.func41, Try.ntmps41
        go_wp2
        go_loop [9] (fun t => ∃ k : Nat, 2 ≤ k ∧ k ≤ 4 ∧ t = .int .i64 k ∧ Hid (ContTo s p k)) (fun t => 4 - (intOf t).toNat)
        case atStart => exact ⟨2, Nat.le_refl _, by omega, rfl, cont_start s p⟩
        case round =>
          obtain ⟨k, hk2, hkn, rfl, hct⟩ := hrel
          by_cases hlt : k < 4
          · have ik : p + k < s.size := by omega
            have ik' : (p : Int) + (k : Int) < (s.size : Int) := by omega
            by_cases ka : ((s[p + k]).toNat : Int) < 128
            · have W : Hid ((Utf8.decode s p).2 = 1) := w4_rest s p 128 191 k hp hcl.out ik hk2 hlt (.inl ka)
              go_wp2
              go_ret
              exact ⟨ret_w (a := 1) W.out, rfl⟩
            · by_cases kb : (191 : Int) < ((s[p + k]).toNat : Int)
              · have W : Hid ((Utf8.decode s p).2 = 1) := w4_rest s p 128 191 k hp hcl.out ik hk2 hlt (.inr kb)
                go_wp2
                go_ret
                exact ⟨ret_w (a := 1) W.out, rfl⟩
              · have HS : Hid (ContTo s p (k + 1)) := cont_step s p k ik ka kb hct.out
                go_wp2
                go_round
                case rel => exact ⟨k + 1, by omega, by omega, by go_num, HS.out⟩
                case measure => simp [intOf]; omega
          · obtain rfl : k = 4 := by omega
            have W : Hid ((Utf8.decode s p).2 = 4) := w4_yes s p 128 191 hp hcl.out hn HB.out hct.out
            go_wp2
            go_ret
            exact ⟨ret_w (a := 4) W.out, rfl⟩
  · have hn' : ¬ (p : Int) + 4 ≤ (s.size : Int) := by omega
    have W : Hid ((Utf8.decode s p).2 = 1) := w4_short s p 128 191 hp hcl.out hn
    go_enter Try.func41, Try.ntmps41
    go_wp2
    go_ret
    exact ⟨ret_w (a := 1) W.out, rfl⟩
end Go.Proofs.Qxb6602355a
