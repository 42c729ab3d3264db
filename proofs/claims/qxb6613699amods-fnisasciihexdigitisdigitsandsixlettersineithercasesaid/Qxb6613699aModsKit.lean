/-
  Contracts of the digit tests (7, 9, 10, 11) and of zzClamp (8), and the counting laws. By an AI agent.
-/
import Derived.Test.Qxb6613699aModsProg
import Derived.WalkKit
import Derived.WalkSpells
import Derived.WalkLawsBesides
namespace Go.Proofs.Qxb6613699aMods
open Go.RowKit

def digB (c : Int) : Bool := decide (48 ≤ c ∧ c ≤ 57)
def hexB (c : Int) : Bool := decide ((48 ≤ c ∧ c ≤ 57) ∨ (97 ≤ c ∧ c ≤ 102) ∨ (65 ≤ c ∧ c ≤ 70))
def clampZ (v lo hi : Int) : Int := if v < lo then lo else if hi < v then hi else v

theorem digB_yes {c : Int} (h : 48 ≤ c ∧ c ≤ 57) : digB c = true := decide_eq_true h
theorem digB_no {c : Int} (h : ¬ (48 ≤ c ∧ c ≤ 57)) : digB c = false := decide_eq_false h
theorem hexB_yes {c : Int} (h : (48 ≤ c ∧ c ≤ 57) ∨ (97 ≤ c ∧ c ≤ 102) ∨ (65 ≤ c ∧ c ≤ 70)) : hexB c = true := decide_eq_true h
theorem hexB_no {c : Int} (h : ¬ ((48 ≤ c ∧ c ≤ 57) ∨ (97 ≤ c ∧ c ≤ 102) ∨ (65 ≤ c ∧ c ≤ 70))) : hexB c = false := decide_eq_false h
theorem ret_bool {a b : Bool} (h : a = b) : Ending.returned (.bool a) = .returned (.bool b) := by rw [h]
theorem ret_int {k : IntKind} {a b : Int} (h : a = b) : Ending.returned (.int k a) = .returned (.int k b) := by rw [h]

set_option maxHeartbeats 400000 in
theorem dig7 (c : Int) (w : World) : Calls Trym.prog 7 #[.int .u8 c] w fun e w' => e = .returned (.bool (digB c)) ∧ w = w' := by
  by_cases h1 : 48 ≤ c
  · by_cases h2 : c ≤ 57
    · rw [digB_yes ⟨h1, h2⟩]
      go_enter Trym.func7, Trym.ntmps7
      go_wp2
      go_ret
      exact ⟨rfl, rfl⟩
    · rw [digB_no (by omega)]
      go_enter Trym.func7, Trym.ntmps7
      go_wp2
      go_ret
      exact ⟨rfl, rfl⟩
  · rw [digB_no (by omega)]
    go_enter Trym.func7, Trym.ntmps7
    go_wp2
    go_ret
    exact ⟨rfl, rfl⟩

set_option maxHeartbeats 400000 in
theorem hex9_yes (c : Int) (w : World) (h : hexB c = true) : Calls Trym.prog 9 #[.int .u8 c] w fun e w' => e = .returned (.bool true) ∧ w = w' := by
  have h' : (48 ≤ c ∧ c ≤ 57) ∨ (97 ≤ c ∧ c ≤ 102) ∨ (65 ≤ c ∧ c ≤ 70) := of_decide_eq_true h
  clear h
  rcases h' with ⟨h1, h2⟩ | ⟨h1, h2⟩ | ⟨h1, h2⟩
  all_goals
    go_enter Trym.func9, Trym.ntmps9
    go_wp2
    go_ret
    exact ⟨rfl, rfl⟩

set_option maxHeartbeats 400000 in
theorem hex9_no (c : Int) (w : World) (h : hexB c = false) : Calls Trym.prog 9 #[.int .u8 c] w fun e w' => e = .returned (.bool false) ∧ w = w' := by
  have h' : ¬ ((48 ≤ c ∧ c ≤ 57) ∨ (97 ≤ c ∧ c ≤ 102) ∨ (65 ≤ c ∧ c ≤ 70)) := of_decide_eq_false h
  clear h
  have hc : c < 48 ∨ (57 < c ∧ c < 65) ∨ (70 < c ∧ c < 97) ∨ 102 < c := by omega
  clear h'
  rcases hc with h1 | ⟨h1, h2⟩ | ⟨h1, h2⟩ | h1
  · go_enter Trym.func9, Trym.ntmps9
    go_wp2
    go_ret
    exact ⟨rfl, rfl⟩
  · have d1 : decide (c ≤ 57) = false := decide_eq_false (by omega)
    go_enter Trym.func9, Trym.ntmps9
    go_wp2
    go_ret
    exact ⟨rfl, rfl⟩
  · have d1 : decide (c ≤ 57) = false := decide_eq_false (by omega)
    have d2 : decide (c ≤ 70) = false := decide_eq_false (by omega)
    go_enter Trym.func9, Trym.ntmps9
    go_wp2
    go_ret
    exact ⟨rfl, rfl⟩
  · have d1 : decide (c ≤ 57) = false := decide_eq_false (by omega)
    have d2 : decide (c ≤ 70) = false := decide_eq_false (by omega)
    have d3 : decide (c ≤ 102) = false := decide_eq_false (by omega)
    go_enter Trym.func9, Trym.ntmps9
    go_wp2
    go_ret
    exact ⟨rfl, rfl⟩

theorem hex9 (c : Int) (w : World) : Calls Trym.prog 9 #[.int .u8 c] w fun e w' => e = .returned (.bool (hexB c)) ∧ w = w' := by
  cases h : hexB c
  · exact hex9_no c w h
  · exact hex9_yes c w h

set_option maxHeartbeats 400000 in
theorem clamp8 (v lo hi : Int) (w : World) : Calls Trym.prog 8 #[.int .i64 v, .int .i64 lo, .int .i64 hi] w fun e w' => e = .returned (.int .i64 (clampZ v lo hi)) ∧ w = w' := by
  by_cases h1 : v < lo
  · rw [show clampZ v lo hi = lo by simp [clampZ, h1]]
    go_enter Trym.func8, Trym.ntmps8
    go_wp2
    go_ret
    exact ⟨rfl, rfl⟩
  · by_cases h2 : hi < v
    · rw [show clampZ v lo hi = hi by simp [clampZ, h1, h2]]
      go_enter Trym.func8, Trym.ntmps8
      go_wp2
      go_ret
      exact ⟨rfl, rfl⟩
    · rw [show clampZ v lo hi = v by simp [clampZ, h1, h2]]
      go_enter Trym.func8, Trym.ntmps8
      go_wp2
      go_ret
      exact ⟨rfl, rfl⟩

/-- How many of the bytes below k are digits. -/
def cntD (k : Int) : Int := clampZ (k - 48) 0 10
/-- How many of the bytes below k are hex digits. -/
def cntH (k : Int) : Int := clampZ (k - 48) 0 10 + clampZ (k - 65) 0 6 + clampZ (k - 97) 0 6

theorem cntD_yes {k : Int} (h : digB k = true) : cntD (k + 1) = cntD k + 1 := by
  have h' : 48 ≤ k ∧ k ≤ 57 := of_decide_eq_true h
  unfold cntD clampZ; split <;> split <;> (try split) <;> (try split) <;> omega
theorem cntD_no {k : Int} (h : digB k = false) : cntD (k + 1) = cntD k := by
  have h' : ¬ (48 ≤ k ∧ k ≤ 57) := of_decide_eq_false h
  unfold cntD clampZ; split <;> split <;> (try split) <;> (try split) <;> omega
theorem clamp_step (k a m : Int) (hm : 0 ≤ m) : clampZ (k + 1 - a) 0 m = clampZ (k - a) 0 m + (if a ≤ k ∧ k < a + m then 1 else 0) := by
  unfold clampZ; split <;> split <;> (try split) <;> (try split) <;> (try split) <;> omega
theorem cntH_yes {k : Int} (h : hexB k = true) : cntH (k + 1) = cntH k + 1 := by
  have h' : (48 ≤ k ∧ k ≤ 57) ∨ (97 ≤ k ∧ k ≤ 102) ∨ (65 ≤ k ∧ k ≤ 70) := of_decide_eq_true h
  unfold cntH
  rw [clamp_step k 48 10 (by omega), clamp_step k 65 6 (by omega), clamp_step k 97 6 (by omega)]
  split <;> split <;> split <;> omega
theorem cntH_no {k : Int} (h : hexB k = false) : cntH (k + 1) = cntH k := by
  have h' : ¬ ((48 ≤ k ∧ k ≤ 57) ∨ (97 ≤ k ∧ k ≤ 102) ∨ (65 ≤ k ∧ k ≤ 70)) := of_decide_eq_false h
  unfold cntH
  rw [clamp_step k 48 10 (by omega), clamp_step k 65 6 (by omega), clamp_step k 97 6 (by omega)]
  split <;> split <;> split <;> omega
theorem clamp_bd (v m : Int) (hm : 0 ≤ m) : 0 ≤ clampZ v 0 m ∧ clampZ v 0 m ≤ m := by
  unfold clampZ; split <;> (try split) <;> omega
theorem cntD_bd (k : Int) : 0 ≤ cntD k ∧ cntD k ≤ 10 := clamp_bd _ _ (by omega)
theorem cntH_bd (k : Int) : 0 ≤ cntH k ∧ cntH k ≤ 22 := by
  unfold cntH
  have := clamp_bd (k - 48) 10 (by omega)
  have := clamp_bd (k - 65) 6 (by omega)
  have := clamp_bd (k - 97) 6 (by omega)
  omega

end Go.Proofs.Qxb6613699aMods
