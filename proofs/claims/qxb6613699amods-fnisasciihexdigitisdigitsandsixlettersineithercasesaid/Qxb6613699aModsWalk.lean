/-
  The walks of the four laws (3, 4, 5, 6). By an AI agent.
-/
import Derived.Test.Qxb6613699aModsKit
namespace Go.Proofs.Qxb6613699aMods
open Go.RowKit

theorem cntD_end (c : Int) : cntD (c + 1) = clampZ (c - 48 + 1) 0 10 := by
  unfold cntD; rw [show c + 1 - 48 = c - 48 + 1 by omega]

set_option maxHeartbeats 400000 in
theorem walk3 (c : Int) (h0 : 0 ≤ c) (h1 : c ≤ 255) (w : World) :
    Calls Trym.prog 3 #[.int .u8 c] w fun e w' => e = .returned (.bool true) ∧ w = w' := by
  go_enter Trym.func3, Trym.ntmps3
  go_wp2_with fail
  go_loop [3, 4] (fun g i => ∃ k : Nat, (k : Int) ≤ c + 1 ∧ i = .int .i64 k ∧ g = .int .i64 (cntD k)) (fun _ i => (c + 1 - intOf i).toNat)
  case atStart => exact ⟨0, by omega, rfl, rfl⟩
  case round =>
    obtain ⟨k, hk, rfl, rfl⟩ := hrel
    have hb := cntD_bd k
    by_cases hlt : (k : Int) ≤ c
    · cases hd : digB k
      · have HN : Hid (cntD ((k : Int) + 1) = cntD k) := cntD_no hd
        go_wp2_with (go_at_call 7; refine (dig7 _ _).mono ?_; rintro e w' ⟨rfl, rfl⟩)
        go_round
        case rel => exact ⟨k + 1, by omega, by go_num, by rw [← HN.out]; go_num⟩
        case measure => simp [intOf]; omega
      · have HN : Hid (cntD ((k : Int) + 1) = cntD k + 1) := cntD_yes hd
        go_wp2_with (go_at_call 7; refine (dig7 _ _).mono ?_; rintro e w' ⟨rfl, rfl⟩)
        go_round
        case rel => exact ⟨k + 1, by omega, by go_num, by rw [← HN.out]; go_num⟩
        case measure => simp [intOf]; omega
    · have HE : Hid (cntD k = clampZ (c - 48 + 1) 0 10) := by
        rw [show (k : Int) = c + 1 by omega]; exact cntD_end c
      go_wp2_with (go_at_call 8; refine (clamp8 _ _ _ _).mono ?_; rintro e w' ⟨rfl, rfl⟩)
      go_ret
      exact ⟨ret_bool (by rw [HE.out]; simp), rfl⟩

theorem flip_dig (c : Int) (h0 : 0 ≤ c) (h1 : c ≤ 255) : digB c = (hexB c && !hexB (bits .xor .u8 c 32)) := by
  obtain ⟨n, rfl⟩ := Int.eq_ofNat_of_zero_le h0
  have := (by decide +kernel : ∀ n : Fin 256, digB (n.val : Int) = (hexB (n.val : Int) && !hexB (bits .xor .u8 (n.val : Int) 32))) ⟨n, by omega⟩
  exact this

theorem cntD_all : cntD 256 = 10 := by decide
theorem cntH_all : cntH 256 = 22 := by decide

set_option maxHeartbeats 400000 in
theorem walk4 (c : Int) (h0 : 0 ≤ c) (h1 : c ≤ 255) (w : World) :
    Calls Trym.prog 4 #[.int .u8 c] w fun e w' => e = .returned (.bool true) ∧ w = w' := by
  have hfl := flip_dig c h0 h1
  have HF : Hid (digB c = (hexB c && !hexB (bits .xor .u8 c 32))) := hfl
  clear hfl
  go_enter Trym.func4, Trym.ntmps4
  go_wp2_with fail
  go_loop [3, 4] (fun g i => ∃ k : Nat, (k : Int) ≤ 256 ∧ i = .int .i64 k ∧ g = .int .i64 (cntD k)) (fun _ i => (256 - intOf i).toNat)
  case atStart => exact ⟨0, by omega, rfl, rfl⟩
  case round =>
    obtain ⟨k, hk, rfl, rfl⟩ := hrel
    have hb := cntD_bd k
    by_cases hlt : (k : Int) < 256
    · cases hd : digB k
      · have HN : Hid (cntD ((k : Int) + 1) = cntD k) := cntD_no hd
        go_wp2_with (go_at_call 7; refine (dig7 _ _).mono ?_; rintro e w' ⟨rfl, rfl⟩)
        go_round
        case rel => exact ⟨k + 1, by omega, by go_num, by rw [← HN.out]; go_num⟩
        case measure => simp [intOf]; omega
      · have HN : Hid (cntD ((k : Int) + 1) = cntD k + 1) := cntD_yes hd
        go_wp2_with (go_at_call 7; refine (dig7 _ _).mono ?_; rintro e w' ⟨rfl, rfl⟩)
        go_round
        case rel => exact ⟨k + 1, by omega, by go_num, by rw [← HN.out]; go_num⟩
        case measure => simp [intOf]; omega
    · have hE : cntD k = 10 := by
        rw [show (k : Int) = 256 by omega]; exact cntD_all
      clear hb
      cases hh : hexB c
      · have hd : digB c = false := by rw [HF.out, hh]; rfl
        go_wp2_with (first
          | (go_at_call 9; refine (hex9 _ _).mono ?_; rintro e w' ⟨rfl, rfl⟩)
          | (go_at_call 7; refine (dig7 _ _).mono ?_; rintro e w' ⟨rfl, rfl⟩))
        go_ret
        exact ⟨rfl, rfl⟩
      · cases hf : hexB (bits .xor .u8 c 32)
        · have hd : digB c = true := by rw [HF.out, hh, hf]; rfl
          go_wp2_with (first
            | (go_at_call 9; refine (hex9 _ _).mono ?_; rintro e w' ⟨rfl, rfl⟩)
            | (go_at_call 7; refine (dig7 _ _).mono ?_; rintro e w' ⟨rfl, rfl⟩))
          go_ret
          exact ⟨rfl, rfl⟩
        · have hd : digB c = false := by rw [HF.out, hh, hf]; rfl
          go_wp2_with (first
            | (go_at_call 9; refine (hex9 _ _).mono ?_; rintro e w' ⟨rfl, rfl⟩)
            | (go_at_call 7; refine (dig7 _ _).mono ?_; rintro e w' ⟨rfl, rfl⟩))
          go_ret
          exact ⟨rfl, rfl⟩

theorem cntH_end (c : Int) : cntH (c + 1) = clampZ (c - 48 + 1) 0 10 + clampZ (c - 65 + 1) 0 6 + clampZ (c - 97 + 1) 0 6 := by
  unfold cntH
  rw [show c + 1 - 48 = c - 48 + 1 by omega, show c + 1 - 65 = c - 65 + 1 by omega, show c + 1 - 97 = c - 97 + 1 by omega]

set_option maxHeartbeats 400000 in
theorem walk5 (c : Int) (h0 : 0 ≤ c) (h1 : c ≤ 255) (w : World) :
    Calls Trym.prog 5 #[.int .u8 c] w fun e w' => e = .returned (.bool true) ∧ w = w' := by
  go_enter Trym.func5, Trym.ntmps5
  go_wp2_with fail
  go_loop [3, 4] (fun g i => ∃ k : Nat, (k : Int) ≤ c + 1 ∧ i = .int .i64 k ∧ g = .int .i64 (cntH k)) (fun _ i => (c + 1 - intOf i).toNat)
  case atStart => exact ⟨0, by omega, rfl, rfl⟩
  case round =>
    obtain ⟨k, hk, rfl, rfl⟩ := hrel
    have hb := cntH_bd k
    by_cases hlt : (k : Int) ≤ c
    · cases hd : hexB k
      · have HN : Hid (cntH ((k : Int) + 1) = cntH k) := cntH_no hd
        go_wp2_with (go_at_call 9; refine (hex9 _ _).mono ?_; rintro e w' ⟨rfl, rfl⟩)
        go_round
        case rel => exact ⟨k + 1, by omega, by go_num, by rw [← HN.out]; go_num⟩
        case measure => simp [intOf]; omega
      · have HN : Hid (cntH ((k : Int) + 1) = cntH k + 1) := cntH_yes hd
        go_wp2_with (go_at_call 9; refine (hex9 _ _).mono ?_; rintro e w' ⟨rfl, rfl⟩)
        go_round
        case rel => exact ⟨k + 1, by omega, by go_num, by rw [← HN.out]; go_num⟩
        case measure => simp [intOf]; omega
    · have HE : Hid (cntH k = clampZ (c - 48 + 1) 0 10 + clampZ (c - 65 + 1) 0 6 + clampZ (c - 97 + 1) 0 6) := by
        rw [show (k : Int) = c + 1 by omega]; exact cntH_end c
      have b1 := clamp_bd (c - 48 + 1) 10 (by omega)
      have b2 := clamp_bd (c - 65 + 1) 6 (by omega)
      have b3 := clamp_bd (c - 97 + 1) 6 (by omega)
      go_wp2_with (go_at_call 8; refine (clamp8 _ _ _ _).mono ?_; rintro e w' ⟨rfl, rfl⟩)
      go_ret
      exact ⟨ret_bool (by rw [HE.out]; simp), rfl⟩

end Go.Proofs.Qxb6613699aMods
