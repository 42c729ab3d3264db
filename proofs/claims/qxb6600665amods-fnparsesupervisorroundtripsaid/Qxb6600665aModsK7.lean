/-
  Contracts of the bound on total length of the two round trips (functions 26, 30). By an AI agent.
-/
import Derived.Test.Qxb6600665aModsK1
namespace Go.Proofs.Qxb6600665aMods
open Go.RowKit

set_option maxHeartbeats 400000 in
theorem bytes26_over (ao : Option Addr) (s t : ByteArray) (n cap : Nat) (w : World) (hn : 1048576 < (s.size : Int) + (t.size : Int) + (n : Int)) :
    Calls Trym.prog 26 #[.string s, .string t, .slice ao n cap] w fun e w' => AnyBool e ∧ w' = w := by
  go_enter Trym.func26, Trym.ntmps26
  go_wp2
  all_goals
    go_ret
    exact ⟨anyBool _, rfl⟩

set_option maxHeartbeats 400000 in
theorem bytes26_some (b off : Nat) (s t : ByteArray) (n cap : Nat) (w : World) (hn : (s.size : Int) + (t.size : Int) + (n : Int) ≤ 1048576) (hc : ∀ j, j < n → ∃ s : ByteArray, w.cell? ⟨b, off + j, none⟩ = some (.string s)) :
    Calls Trym.prog 26 #[.string s, .string t, .slice (some ⟨b, off, none⟩) n cap] w fun e w' => AnyBool e ∧ w' = w := by
  go_enter Trym.func26, Trym.ntmps26
  go_wp2
  go_loop [7, 8] (fun z i => ∃ (k : Nat) (u : Int), k ≤ n ∧ i = .int .i64 k ∧ 0 ≤ u ∧ u ≤ 1048576 ∧ z = .int .i64 u) (fun _ i => n - (intOf i).toNat)
  case atStart => exact ⟨0, _, Nat.zero_le _, rfl, by omega, by omega, rfl⟩
  case round =>
    obtain ⟨k, u, hk, rfl, ht0, ht1, rfl⟩ := hrel
    by_cases hlt : k < n
    · obtain ⟨s, hs⟩ := hc k hlt
      go_wp2
      · go_ret
        exact ⟨anyBool _, rfl⟩
      · go_ret
        exact ⟨anyBool _, rfl⟩
      · go_round
        case rel => exact ⟨k + 1, _, by omega, by go_num, by omega, by omega, rfl⟩
        case measure => simp [intOf]; omega
    · go_wp2
      go_ret
      exact ⟨anyBool _, rfl⟩

set_option maxHeartbeats 400000 in
theorem bytes26_none (ao : Option Addr) (s t : ByteArray) (cap : Nat) (w : World) (hn : (s.size : Int) + (t.size : Int) ≤ 1048576) :
    Calls Trym.prog 26 #[.string s, .string t, .slice ao 0 cap] w fun e w' => AnyBool e ∧ w' = w := by
  go_enter Trym.func26, Trym.ntmps26
  go_wp2
  refine wp_loop_rounds 1 ?_
  rw [rounds_succ]
  go_wp2
  go_ret
  exact ⟨anyBool _, rfl⟩

theorem bytes26 {ao : Option Addr} {s t : ByteArray} {n cap : Nat} {xs : List ByteArray} {w : World} (h : Rd w ao n xs) :
    Calls Trym.prog 26 #[.string s, .string t, .slice ao n cap] w fun e w' => AnyBool e ∧ w' = w := by
  by_cases hn : (s.size : Int) + (t.size : Int) + (n : Int) ≤ 1048576
  · obtain ⟨_, h | ⟨b, off, rfl, _, hc⟩⟩ := h
    · subst h; exact bytes26_none _ _ _ _ _ (by omega)
    · exact bytes26_some b off s t n cap w hn fun j hj => ⟨_, hc j hj⟩
  · exact bytes26_over ao s t n cap w (by omega)

set_option maxHeartbeats 400000 in
theorem bytes30_over (p : Bool) (ao : Option Addr) (s t : ByteArray) (n cap : Nat) (w : World) (hn : 1048576 < (s.size : Int) + (t.size : Int) + (n : Int)) :
    Calls Trym.prog 30 #[.bool p, .string s, .string t, .slice ao n cap] w fun e w' => AnyBool e ∧ w' = w := by
  go_enter Trym.func30, Trym.ntmps30
  go_wp2
  all_goals
    go_ret
    exact ⟨anyBool _, rfl⟩

set_option maxHeartbeats 400000 in
theorem bytes30_some (p : Bool) (b off : Nat) (s t : ByteArray) (n cap : Nat) (w : World) (hn : (s.size : Int) + (t.size : Int) + (n : Int) ≤ 1048576) (hc : ∀ j, j < n → ∃ s : ByteArray, w.cell? ⟨b, off + j, none⟩ = some (.string s)) :
    Calls Trym.prog 30 #[.bool p, .string s, .string t, .slice (some ⟨b, off, none⟩) n cap] w fun e w' => AnyBool e ∧ w' = w := by
  go_enter Trym.func30, Trym.ntmps30
  go_wp2
  go_loop [9, 10] (fun z i => ∃ (k : Nat) (u : Int), k ≤ n ∧ i = .int .i64 k ∧ 0 ≤ u ∧ u ≤ 1048576 ∧ z = .int .i64 u) (fun _ i => n - (intOf i).toNat)
  case atStart => exact ⟨0, _, Nat.zero_le _, rfl, by omega, by omega, rfl⟩
  case round =>
    obtain ⟨k, u, hk, rfl, ht0, ht1, rfl⟩ := hrel
    by_cases hlt : k < n
    · obtain ⟨s, hs⟩ := hc k hlt
      go_wp2
      · go_ret
        exact ⟨anyBool _, rfl⟩
      · go_ret
        exact ⟨anyBool _, rfl⟩
      · go_round
        case rel => exact ⟨k + 1, _, by omega, by go_num, by omega, by omega, rfl⟩
        case measure => simp [intOf]; omega
    · go_wp2
      go_ret
      exact ⟨anyBool _, rfl⟩

set_option maxHeartbeats 400000 in
theorem bytes30_none (p : Bool) (ao : Option Addr) (s t : ByteArray) (cap : Nat) (w : World) (hn : (s.size : Int) + (t.size : Int) ≤ 1048576) :
    Calls Trym.prog 30 #[.bool p, .string s, .string t, .slice ao 0 cap] w fun e w' => AnyBool e ∧ w' = w := by
  go_enter Trym.func30, Trym.ntmps30
  go_wp2
  refine wp_loop_rounds 1 ?_
  rw [rounds_succ]
  go_wp2
  go_ret
  exact ⟨anyBool _, rfl⟩

theorem bytes30 {p : Bool} {ao : Option Addr} {s t : ByteArray} {n cap : Nat} {xs : List ByteArray} {w : World} (h : Rd w ao n xs) :
    Calls Trym.prog 30 #[.bool p, .string s, .string t, .slice ao n cap] w fun e w' => AnyBool e ∧ w' = w := by
  by_cases hn : (s.size : Int) + (t.size : Int) + (n : Int) ≤ 1048576
  · obtain ⟨_, h | ⟨b, off, rfl, _, hc⟩⟩ := h
    · subst h; exact bytes30_none _ _ _ _ _ _ (by omega)
    · exact bytes30_some p b off s t n cap w hn fun j hj => ⟨_, hc j hj⟩
  · exact bytes30_over p ao s t n cap w (by omega)

end Go.Proofs.Qxb6600665aMods
