/-
  The walk of FnIsASCIIHexDigitIsDigitsAndSixLettersInEitherCase (6). By an AI agent.
-/
import Derived.Test.Qxb6613699aModsWalk
namespace Go.Proofs.Qxb6613699aMods
open Go.RowKit

theorem flip_hex (c : Int) (h : (97 ≤ c ∧ c ≤ 122) ∨ (65 ≤ c ∧ c ≤ 90)) : hexB c = hexB (bits .xor .u8 c 32) := by
  obtain ⟨n, rfl⟩ := Int.eq_ofNat_of_zero_le (show 0 ≤ c by omega)
  have := (by decide +kernel : ∀ n : Fin 256, ((97 ≤ (n.val : Int) ∧ (n.val : Int) ≤ 122) ∨ (65 ≤ (n.val : Int) ∧ (n.val : Int) ≤ 90)) → hexB (n.val : Int) = hexB (bits .xor .u8 (n.val : Int) 32)) ⟨n, by omega⟩
  exact this h

set_option maxHeartbeats 1000000 in
theorem walk6 (c : Int) (h0 : 0 ≤ c) (h1 : c ≤ 255) (w : World) :
    Calls Trym.prog 6 #[.int .u8 c] w fun e w' => e = .returned (.bool true) ∧ w = w' := by
  have HF : Hid ((97 ≤ c ∧ c ≤ 122) ∨ (65 ≤ c ∧ c ≤ 90) → hexB c = hexB (bits .xor .u8 c 32)) := flip_hex c
  go_enter Trym.func6, Trym.ntmps6
  go_wp2_with fail
  go_loop [3, 4] (fun g i => ∃ k : Nat, (k : Int) ≤ 256 ∧ i = .int .i64 k ∧ g = .int .i64 (cntH k)) (fun _ i => (256 - intOf i).toNat)
  case atStart => exact ⟨0, by omega, rfl, rfl⟩
  case round =>
    obtain ⟨k, hk, rfl, rfl⟩ := hrel
    have hb := cntH_bd k
    by_cases hlt : (k : Int) < 256
    · cases hd : hexB k
      · have HN : Hid (cntH ((k : Int) + 1) = cntH k) := cntH_no hd
        go_wp2_with (go_at_call 9; refine (hex9 _ _).mono ?_; rintro e w' ⟨rfl, rfl⟩)
        go_round
        case rel => exact ⟨k + 1, by omega, by go_num, by rw [← HN.out]; go_num⟩
        case measure => simp [intOf]; omega
      · have HN : Hid (cntH ((k : Int) + 1) = cntH k + 1) := cntH_yes hd
        go_wp2_with (go_at_call 9; refine (hex9 _ _).mono ?_; rintro e w' ⟨rfl, rfl⟩)
        go_round
        case rel => exact ⟨k + 1, by omega, by go_num, by rw [← HN.out]; go_num⟩
        case measure => simp [intOf]; omega
    · have hE : cntH k = 22 := by
        rw [show (k : Int) = 256 by omega]; exact cntH_all
      clear hb
      have hc : (0 ≤ c ∧ c ≤ 47) ∨ (48 ≤ c ∧ c ≤ 57) ∨ (58 ≤ c ∧ c ≤ 64) ∨ (65 ≤ c ∧ c ≤ 70) ∨ (71 ≤ c ∧ c ≤ 90) ∨ (91 ≤ c ∧ c ≤ 96) ∨ (97 ≤ c ∧ c ≤ 102) ∨ (103 ≤ c ∧ c ≤ 122) ∨ (123 ≤ c ∧ c ≤ 255) := by omega
      rcases hc with ⟨p0, p1⟩ | ⟨p0, p1⟩ | ⟨p0, p1⟩ | ⟨p0, p1⟩ | ⟨p0, p1⟩ | ⟨p0, p1⟩ | ⟨p0, p1⟩ | ⟨p0, p1⟩ | ⟨p0, p1⟩
      · -- from 0 to 47
        have t0 : decide (97 ≤ c) = false := decide_eq_false (by omega)
        have t1 : c ≤ 122 := by omega
        have t2 : decide (65 ≤ c) = false := decide_eq_false (by omega)
        have t3 : c ≤ 90 := by omega
        have hd : digB c = false := digB_no (by omega)
        have hh : hexB c = false := hexB_no (by omega)
        go_wp2_with (first
          | (go_at_call 9; refine (hex9 _ _).mono ?_; rintro e w' ⟨rfl, rfl⟩)
          | (go_at_call 7; refine (dig7 _ _).mono ?_; rintro e w' ⟨rfl, rfl⟩))
        go_ret
        exact ⟨rfl, rfl⟩
      · -- from 48 to 57
        have t0 : decide (97 ≤ c) = false := decide_eq_false (by omega)
        have t1 : c ≤ 122 := by omega
        have t2 : decide (65 ≤ c) = false := decide_eq_false (by omega)
        have t3 : c ≤ 90 := by omega
        have hd : digB c = true := digB_yes (by omega)
        have hh : hexB c = true := hexB_yes (by omega)
        go_wp2_with (first
          | (go_at_call 9; refine (hex9 _ _).mono ?_; rintro e w' ⟨rfl, rfl⟩)
          | (go_at_call 7; refine (dig7 _ _).mono ?_; rintro e w' ⟨rfl, rfl⟩))
        go_ret
        exact ⟨rfl, rfl⟩
      · -- from 58 to 64
        have t0 : decide (97 ≤ c) = false := decide_eq_false (by omega)
        have t1 : c ≤ 122 := by omega
        have t2 : decide (65 ≤ c) = false := decide_eq_false (by omega)
        have t3 : c ≤ 90 := by omega
        have hd : digB c = false := digB_no (by omega)
        have hh : hexB c = false := hexB_no (by omega)
        go_wp2_with (first
          | (go_at_call 9; refine (hex9 _ _).mono ?_; rintro e w' ⟨rfl, rfl⟩)
          | (go_at_call 7; refine (dig7 _ _).mono ?_; rintro e w' ⟨rfl, rfl⟩))
        go_ret
        exact ⟨rfl, rfl⟩
      · -- from 65 to 70
        have t0 : decide (97 ≤ c) = false := decide_eq_false (by omega)
        have t1 : c ≤ 122 := by omega
        have t2 : 65 ≤ c := by omega
        have t3 : c ≤ 90 := by omega
        have hd : digB c = false := digB_no (by omega)
        have hh : hexB c = true := hexB_yes (by omega)
        have hf : hexB (bits .xor .u8 c 32) = true := by rw [← HF.out (by omega)]; exact hh
        go_wp2_with (first
          | (go_at_call 9; refine (hex9 _ _).mono ?_; rintro e w' ⟨rfl, rfl⟩)
          | (go_at_call 7; refine (dig7 _ _).mono ?_; rintro e w' ⟨rfl, rfl⟩))
        go_ret
        exact ⟨rfl, rfl⟩
      · -- from 71 to 90
        have t0 : decide (97 ≤ c) = false := decide_eq_false (by omega)
        have t1 : c ≤ 122 := by omega
        have t2 : 65 ≤ c := by omega
        have t3 : c ≤ 90 := by omega
        have hd : digB c = false := digB_no (by omega)
        have hh : hexB c = false := hexB_no (by omega)
        have hf : hexB (bits .xor .u8 c 32) = false := by rw [← HF.out (by omega)]; exact hh
        go_wp2_with (first
          | (go_at_call 9; refine (hex9 _ _).mono ?_; rintro e w' ⟨rfl, rfl⟩)
          | (go_at_call 7; refine (dig7 _ _).mono ?_; rintro e w' ⟨rfl, rfl⟩))
        go_ret
        exact ⟨rfl, rfl⟩
      · -- from 91 to 96
        have t0 : decide (97 ≤ c) = false := decide_eq_false (by omega)
        have t1 : c ≤ 122 := by omega
        have t2 : 65 ≤ c := by omega
        have t3 : decide (c ≤ 90) = false := decide_eq_false (by omega)
        have hd : digB c = false := digB_no (by omega)
        have hh : hexB c = false := hexB_no (by omega)
        go_wp2_with (first
          | (go_at_call 9; refine (hex9 _ _).mono ?_; rintro e w' ⟨rfl, rfl⟩)
          | (go_at_call 7; refine (dig7 _ _).mono ?_; rintro e w' ⟨rfl, rfl⟩))
        go_ret
        exact ⟨rfl, rfl⟩
      · -- from 97 to 102
        have t0 : 97 ≤ c := by omega
        have t1 : c ≤ 122 := by omega
        have t2 : 65 ≤ c := by omega
        have t3 : decide (c ≤ 90) = false := decide_eq_false (by omega)
        have hd : digB c = false := digB_no (by omega)
        have hh : hexB c = true := hexB_yes (by omega)
        have hf : hexB (bits .xor .u8 c 32) = true := by rw [← HF.out (by omega)]; exact hh
        go_wp2_with (first
          | (go_at_call 9; refine (hex9 _ _).mono ?_; rintro e w' ⟨rfl, rfl⟩)
          | (go_at_call 7; refine (dig7 _ _).mono ?_; rintro e w' ⟨rfl, rfl⟩))
        go_ret
        exact ⟨rfl, rfl⟩
      · -- from 103 to 122
        have t0 : 97 ≤ c := by omega
        have t1 : c ≤ 122 := by omega
        have t2 : 65 ≤ c := by omega
        have t3 : decide (c ≤ 90) = false := decide_eq_false (by omega)
        have hd : digB c = false := digB_no (by omega)
        have hh : hexB c = false := hexB_no (by omega)
        have hf : hexB (bits .xor .u8 c 32) = false := by rw [← HF.out (by omega)]; exact hh
        go_wp2_with (first
          | (go_at_call 9; refine (hex9 _ _).mono ?_; rintro e w' ⟨rfl, rfl⟩)
          | (go_at_call 7; refine (dig7 _ _).mono ?_; rintro e w' ⟨rfl, rfl⟩))
        go_ret
        exact ⟨rfl, rfl⟩
      · -- from 123 to 255
        have t0 : 97 ≤ c := by omega
        have t1 : decide (c ≤ 122) = false := decide_eq_false (by omega)
        have t2 : 65 ≤ c := by omega
        have t3 : decide (c ≤ 90) = false := decide_eq_false (by omega)
        have hd : digB c = false := digB_no (by omega)
        have hh : hexB c = false := hexB_no (by omega)
        go_wp2_with (first
          | (go_at_call 9; refine (hex9 _ _).mono ?_; rintro e w' ⟨rfl, rfl⟩)
          | (go_at_call 7; refine (dig7 _ _).mono ?_; rintro e w' ⟨rfl, rfl⟩))
        go_ret
        exact ⟨rfl, rfl⟩

end Go.Proofs.Qxb6613699aMods
