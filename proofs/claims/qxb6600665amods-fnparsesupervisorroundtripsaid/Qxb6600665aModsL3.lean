/-
  FnParseSupervisionWhole (6): all cases, and the given statement. By an AI agent.
-/
import Derived.Test.Qxb6600665aModsRows
import Derived.Test.Qxb6600665aModsL2
import Derived.ProofKit
import Derived.ShutString
import Derived.ChangeOld
import Derived.SliceStrings
namespace Go.Proofs.Qxb6600665aMods
open Go.ChangeShapes Go.WideShapes Go.ChangeAt Go.RowKit

theorem encL_length (b c : ByteArray) (cmd : List ByteArray) : (encL b c cmd).length = cmd.length + 2 ∧ c = ByteArray.empty ∨ (encL b c cmd).length = cmd.length + 3 ∧ c ≠ ByteArray.empty := by
  unfold encL; by_cases h : c = ByteArray.empty
  · left; simp [h]
  · right; simp [h]

theorem pos_of_ne {cmd : List ByteArray} (h : cmd ≠ []) : 0 < cmd.length := List.length_pos_iff.2 h

theorem named_len {xs : List ByteArray} (h : Named xs) : 3 ≤ xs.length := by
  obtain ⟨b, c, cmd, hc, rfl⟩ := h
  have := pos_of_ne hc
  rcases encL_length b c cmd with ⟨h, _⟩ | ⟨h, _⟩ <;> omega

theorem enc_plain_back (b : ByteArray) (cmd : List ByteArray) : encL ((encL b ByteArray.empty cmd).getD 1 ByteArray.empty) ⟨#[]⟩ ((encL b ByteArray.empty cmd).drop 2) = encL b ByteArray.empty cmd := by
  have e : (⟨#[]⟩ : ByteArray) = ByteArray.empty := rfl
  simp [encL, e]

theorem enc_check_back (b c : ByteArray) (cmd : List ByteArray) (h : c ≠ ByteArray.empty) : encL ((encL b c cmd).getD 1 ByteArray.empty) ((encL b c cmd).getD 2 ByteArray.empty) ((encL b c cmd).drop 3) = encL b c cmd := by
  simp [encL, h]

theorem drop_ne {xs : List ByteArray} {k : Nat} (h : k < xs.length) : xs.drop k ≠ [] := by
  intro hh
  have := congrArg List.length hh
  simp at this
  omega

set_option maxHeartbeats 400000 in
theorem long6 (ao : Option Addr) (n cap : Nat) (xs : List ByteArray) (w : World) (h : Rd w ao n xs) (hn : 65536 < n) :
    Calls Trym.prog 6 #[.slice ao n cap] w fun e w' => e = .returned (.bool true) ∧ Below w.heap.size w w' := by
  have HB := bytes20 (cap := cap) h
  clear h
  go_enter Trym.func6, Trym.ntmps6
  go_wp2_with fail
  refine HB.mono ?_
  clear HB
  rintro e w1 ⟨⟨r, rfl⟩, hw1⟩
  have hw1 := hw1.symm
  subst hw1
  cases r
  all_goals
    go_wp2
    go_ret
    exact ⟨rfl, Below.refl _ _⟩

theorem walk6 {ao : Option Addr} {n cap : Nat} {xs : List ByteArray} {w : World} (h : Rd w ao n xs) :
    Calls Trym.prog 6 #[.slice ao n cap] w fun e w' => e = .returned (.bool true) ∧ Below w.heap.size w w' := by
  by_cases hn : 65536 < n
  · exact long6 ao n cap xs w h hn
  obtain rfl := h.len
  by_cases h3 : xs.length < 3
  · exact core6_short ao cap xs w h h3 fun hh => by have := named_len hh; omega
  obtain ⟨b, off, rfl, _, _⟩ := h.some (by omega)
  by_cases h4 : xs.length = 3
  · by_cases hN : Named xs
    · obtain ⟨bundle, chk, cmd, hc, hx⟩ := hN
      have hp := pos_of_ne hc
      have hk : chk = ByteArray.empty := by
        rcases encL_length bundle chk cmd with ⟨_, h⟩ | ⟨h, _⟩
        · exact h
        · rw [← hx] at h; omega
      have hl : cmd.length ≤ xs.length := by
        rcases encL_length bundle chk cmd with ⟨h, _⟩ | ⟨h, _⟩ <;> rw [← hx] at h <;> omega
      refine core6_three b off cap xs _ _ bundle chk cmd w h (by omega) h4 rfl rfl ?_ hx hc hp (by omega)
      symm; rw [decide_eq_true_eq, hx, hk]
      exact enc_plain_back bundle cmd
    · refine core6_three_no b off cap xs _ _ w h (by omega) h4 rfl rfl ?_ hN
      symm; rw [decide_eq_false_iff_not]
      exact fun hh => hN ⟨_, _, _, drop_ne (by omega), hh.symm⟩
  · by_cases hN : Named xs
    · obtain ⟨bundle, chk, cmd, hc, hx⟩ := hN
      have hp := pos_of_ne hc
      have hl : cmd.length ≤ xs.length := by
        rcases encL_length bundle chk cmd with ⟨h, _⟩ | ⟨h, _⟩ <;> rw [← hx] at h <;> omega
      refine core6_four _ _ b off cap xs _ _ _ _ bundle chk cmd w h (by omega) (by omega) rfl rfl rfl rfl rfl rfl ?_ hx hc hp (by omega)
      rw [Bool.or_eq_true, decide_eq_true_eq, decide_eq_true_eq, hx]
      by_cases hk : chk = ByteArray.empty
      · left; rw [hk]; exact enc_plain_back bundle cmd
      · right; exact enc_check_back bundle chk cmd hk
    · refine core6_four_no b off cap xs _ _ _ _ w h (by omega) (by omega) rfl rfl rfl rfl ?_ ?_ hN
      · symm; rw [decide_eq_false_iff_not]
        exact fun hh => hN ⟨_, _, _, drop_ne (by omega), hh.symm⟩
      · symm; rw [decide_eq_false_iff_not]
        exact fun hh => hN ⟨_, _, _, drop_ne (by omega), hh.symm⟩

end Go.Proofs.Qxb6600665aMods
