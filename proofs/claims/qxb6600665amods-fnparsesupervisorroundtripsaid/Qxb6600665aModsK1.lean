/-
  Contracts of the readers: the bound on total length (functions 20, 27, 26, 30) and runscB1StrsBytes (21). By an AI agent.
-/
import Derived.Test.Qxb6600665aModsProg
import Derived.WalkKit
import Derived.WalkSpells
import Derived.WalkLawsBesides
namespace Go.Proofs.Qxb6600665aMods
open Go.RowKit

/-- The call returned some bool. -/
def AnyBool (e : Ending) : Prop := ∃ r : Bool, e = .returned (.bool r)
theorem anyBool (r : Bool) : AnyBool (.returned (.bool r)) := ⟨r, rfl⟩
/-- The call returned some int between 0 and 2 to the 22nd. -/
def AnySize (e : Ending) : Prop := ∃ z : Int, 0 ≤ z ∧ z ≤ 4194304 ∧ e = .returned (.int .i64 z)
theorem anySize (z : Int) (h0 : 0 ≤ z) (h1 : z ≤ 4194304) : AnySize (.returned (.int .i64 z)) := ⟨z, h0, h1, rfl⟩

/-- What the walk is told of a slice of strings: its first n cells hold the strings xs. -/
def Rd (w : World) (ao : Option Addr) (n : Nat) (xs : List ByteArray) : Prop :=
  xs.length = n ∧ (n = 0 ∨ ∃ b off, ao = some ⟨b, off, none⟩ ∧ b < w.heap.size ∧ ∀ j, j < n → w.cell? ⟨b, off + j, none⟩ = some (.string (xs.getD j ByteArray.empty)))

set_option maxHeartbeats 400000 in
theorem bytes20_some (b off n cap : Nat) (w : World) (hc : ∀ j, j < n → ∃ s : ByteArray, w.cell? ⟨b, off + j, none⟩ = some (.string s)) :
    Calls Trym.prog 20 #[.slice (some ⟨b, off, none⟩) n cap] w fun e w' => AnyBool e ∧ w' = w := by
  by_cases hn : n ≤ 1048576
  · go_enter Trym.func20, Trym.ntmps20
    go_wp2
    go_loop [3, 4] (fun z i => ∃ (k : Nat) (t : Int), k ≤ n ∧ i = .int .i64 k ∧ 0 ≤ t ∧ t ≤ 1048576 ∧ z = .int .i64 t) (fun _ i => n - (intOf i).toNat)
    case atStart => exact ⟨0, n, Nat.zero_le _, rfl, by omega, by omega, rfl⟩
    case round =>
      obtain ⟨k, t, hk, rfl, ht0, ht1, rfl⟩ := hrel
      by_cases hlt : k < n
      · obtain ⟨s, hs⟩ := hc k hlt
        go_wp2
        · go_ret
          exact ⟨anyBool _, rfl⟩
        · go_ret
          exact ⟨anyBool _, rfl⟩
        · go_round
          case rel => exact ⟨k + 1, _, by omega, by go_num, by omega, by omega, rfl⟩
          case measure => simp [intOf]; omega
      · go_wp2
        go_ret
        exact ⟨anyBool _, rfl⟩
  · go_enter Trym.func20, Trym.ntmps20
    go_wp2
    go_ret
    exact ⟨anyBool _, rfl⟩

set_option maxHeartbeats 400000 in
theorem bytes20_none (ao : Option Addr) (cap : Nat) (w : World) :
    Calls Trym.prog 20 #[.slice ao 0 cap] w fun e w' => AnyBool e ∧ w' = w := by
  go_enter Trym.func20, Trym.ntmps20
  go_wp2
  refine wp_loop_rounds 1 ?_
  rw [rounds_succ]
  go_wp2
  go_ret
  exact ⟨anyBool _, rfl⟩

theorem bytes20 {ao : Option Addr} {n cap : Nat} {xs : List ByteArray} {w : World} (h : Rd w ao n xs) :
    Calls Trym.prog 20 #[.slice ao n cap] w fun e w' => AnyBool e ∧ w' = w := by
  obtain ⟨_, h | ⟨b, off, rfl, _, hc⟩⟩ := h
  · subst h; exact bytes20_none _ _ _
  · exact bytes20_some b off n cap w fun j hj => ⟨_, hc j hj⟩

set_option maxHeartbeats 400000 in
theorem bytes27_some (b off n cap : Nat) (w : World) (hc : ∀ j, j < n → ∃ s : ByteArray, w.cell? ⟨b, off + j, none⟩ = some (.string s)) :
    Calls Trym.prog 27 #[.slice (some ⟨b, off, none⟩) n cap] w fun e w' => AnyBool e ∧ w' = w := by
  by_cases hn : n ≤ 1048576
  · go_enter Trym.func27, Trym.ntmps27
    go_wp2
    go_loop [3, 4] (fun z i => ∃ (k : Nat) (t : Int), k ≤ n ∧ i = .int .i64 k ∧ 0 ≤ t ∧ t ≤ 1048576 ∧ z = .int .i64 t) (fun _ i => n - (intOf i).toNat)
    case atStart => exact ⟨0, n, Nat.zero_le _, rfl, by omega, by omega, rfl⟩
    case round =>
      obtain ⟨k, t, hk, rfl, ht0, ht1, rfl⟩ := hrel
      by_cases hlt : k < n
      · obtain ⟨s, hs⟩ := hc k hlt
        go_wp2
        · go_ret
          exact ⟨anyBool _, rfl⟩
        · go_ret
          exact ⟨anyBool _, rfl⟩
        · go_round
          case rel => exact ⟨k + 1, _, by omega, by go_num, by omega, by omega, rfl⟩
          case measure => simp [intOf]; omega
      · go_wp2
        go_ret
        exact ⟨anyBool _, rfl⟩
  · go_enter Trym.func27, Trym.ntmps27
    go_wp2
    go_ret
    exact ⟨anyBool _, rfl⟩

set_option maxHeartbeats 400000 in
theorem bytes27_none (ao : Option Addr) (cap : Nat) (w : World) :
    Calls Trym.prog 27 #[.slice ao 0 cap] w fun e w' => AnyBool e ∧ w' = w := by
  go_enter Trym.func27, Trym.ntmps27
  go_wp2
  refine wp_loop_rounds 1 ?_
  rw [rounds_succ]
  go_wp2
  go_ret
  exact ⟨anyBool _, rfl⟩

theorem bytes27 {ao : Option Addr} {n cap : Nat} {xs : List ByteArray} {w : World} (h : Rd w ao n xs) :
    Calls Trym.prog 27 #[.slice ao n cap] w fun e w' => AnyBool e ∧ w' = w := by
  obtain ⟨_, h | ⟨b, off, rfl, _, hc⟩⟩ := h
  · subst h; exact bytes27_none _ _ _
  · exact bytes27_some b off n cap w fun j hj => ⟨_, hc j hj⟩

set_option maxHeartbeats 400000 in
theorem size21_some (b off n cap : Nat) (w : World) (hc : ∀ j, j < n → ∃ s : ByteArray, w.cell? ⟨b, off + j, none⟩ = some (.string s)) :
    Calls Trym.prog 21 #[.slice (some ⟨b, off, none⟩) n cap] w fun e w' => AnySize e ∧ w' = w := by
  by_cases hn : n ≤ 65536
  · go_enter Trym.func21, Trym.ntmps21
    go_wp2
    go_loop [3, 4] (fun z i => ∃ (k : Nat) (t : Int), k ≤ n ∧ i = .int .i64 k ∧ 0 ≤ t ∧ t ≤ 1048576 ∧ z = .int .i64 t) (fun _ i => n - (intOf i).toNat)
    case atStart => exact ⟨0, _, Nat.zero_le _, rfl, by omega, by omega, rfl⟩
    case round =>
      obtain ⟨k, t, hk, rfl, ht0, ht1, rfl⟩ := hrel
      by_cases hlt : k < n
      · obtain ⟨s, hs⟩ := hc k hlt
        go_wp2
        · go_ret
          exact ⟨anySize _ (by omega) (by omega), rfl⟩
        · go_ret
          exact ⟨anySize _ (by omega) (by omega), rfl⟩
        · go_round
          case rel => exact ⟨k + 1, _, by omega, by go_num, by omega, by omega, rfl⟩
          case measure => simp [intOf]; omega
      · go_wp2
        go_ret
        exact ⟨anySize _ (by omega) (by omega), rfl⟩
  · go_enter Trym.func21, Trym.ntmps21
    go_wp2
    go_ret
    exact ⟨anySize _ (by omega) (by omega), rfl⟩

set_option maxHeartbeats 400000 in
theorem size21_none (ao : Option Addr) (cap : Nat) (w : World) :
    Calls Trym.prog 21 #[.slice ao 0 cap] w fun e w' => AnySize e ∧ w' = w := by
  go_enter Trym.func21, Trym.ntmps21
  go_wp2
  refine wp_loop_rounds 1 ?_
  rw [rounds_succ]
  go_wp2
  go_ret
  exact ⟨anySize _ (by omega) (by omega), rfl⟩

theorem size21 {ao : Option Addr} {n cap : Nat} {xs : List ByteArray} {w : World} (h : Rd w ao n xs) :
    Calls Trym.prog 21 #[.slice ao n cap] w fun e w' => AnySize e ∧ w' = w := by
  obtain ⟨_, h | ⟨b, off, rfl, _, hc⟩⟩ := h
  · subst h; exact size21_none _ _ _
  · exact size21_some b off n cap w fun j hj => ⟨_, hc j hj⟩

end Go.Proofs.Qxb6600665aMods
