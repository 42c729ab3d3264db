/-
  FnParseSupervisorWhole (8): all cases. By an AI agent.
-/
import Derived.Test.Qxb6600665aModsN2
import Derived.Test.Qxb6600665aModsN3
namespace Go.Proofs.Qxb6600665aMods
open Go.RowKit

theorem sandbox_ne_det : sandboxB ≠ detB := by
  intro h
  have := congrArg ByteArray.toList h
  rw [sandbox_list, det_list] at this
  exact absurd this (by decide)
theorem check_ne_det : checkB ≠ detB := by
  intro h
  have := congrArg ByteArray.toList h
  rw [check_list, det_list] at this
  exact absurd this (by decide)

theorem encL_ne_det (b c : ByteArray) (cmd ys : List ByteArray) : encL b c cmd ≠ detB :: ys := by
  unfold encL
  split
  · intro h; exact sandbox_ne_det (List.cons.inj h).1
  · intro h; exact check_ne_det (List.cons.inj h).1

theorem named_not_det {xs : List ByteArray} (h : Named xs) : ∀ ys, xs ≠ detB :: ys := by
  obtain ⟨b, c, cmd, _, rfl⟩ := h
  exact encL_ne_det b c cmd

theorem det_beq : (detB.toList == [100, 101, 116, 97, 99, 104, 101, 100]) = true := by rw [det_list]; rfl

theorem open_no {xs : List ByteArray} (h : ∀ ys, xs ≠ detB :: ys) (h0 : 0 < xs.length) : ((xs.getD 0 ByteArray.empty).toList == [100, 101, 116, 97, 99, 104, 101, 100]) = false := by
  match xs, h0, h with
  | x :: ys, _, h => exact beq_false_of det_list fun hx => h ys (by rw [show x = detB from hx])

theorem false_dec {p : Prop} [Decidable p] (h : ¬ p) : false = decide p := (decide_eq_false h).symm

theorem encS_yes (b c : ByteArray) (cmd : List ByteArray) : encS true b c cmd = detB :: encL b c cmd := rfl
theorem encS_no (b c : ByteArray) (cmd : List ByteArray) : encS false b c cmd = encL b c cmd := rfl

theorem cmd_le {b c : ByteArray} {cmd : List ByteArray} : cmd.length ≤ (encL b c cmd).length := by
  rcases encL_length b c cmd with ⟨h, _⟩ | ⟨h, _⟩ <;> omega

theorem walk8 {ao : Option Addr} {n cap : Nat} {xs : List ByteArray} {w : World} (h : Rd w ao n xs) :
    Calls Trym.prog 8 #[.slice ao n cap] w fun e w' => e = .returned (.bool true) ∧ Below w.heap.size w w' := by
  by_cases hn : 65536 < n
  · exact long8 ao n cap xs w h hn
  by_cases h0 : n = 0
  · subst h0
    refine core8_zero ao cap xs w h (.inr ⟨rfl, ?_, .inr ⟨rfl, ?_, rfl, rfl, rfl⟩⟩)
    · rintro ys rfl; exact absurd h.len (by simp)
    · intro hh; have := named_len hh; have := h.len; omega
  obtain rfl := h.len
  by_cases hdet : ∃ ys, xs = detB :: ys
  · obtain ⟨ys, rfl⟩ := hdet
    have hl : (detB :: ys).length = ys.length + 1 := rfl
    by_cases h3 : (detB :: ys).length < 3
    · exact core8_few ao cap (detB :: ys) _ true w h (by omega) h3 rfl (.inl ⟨rfl, ys, rfl, .inr ⟨rfl, fun hh => by have := named_len hh; omega, rfl, rfl, rfl⟩⟩) det_beq
    obtain ⟨b, off, rfl, _, _⟩ := h.some (by omega)
    by_cases hN : Named ys
    · obtain ⟨bundle, chk, cmd, hc, rfl⟩ := hN
      have hp := pos_of_ne hc
      have hle := cmd_le (b := bundle) (c := chk) (cmd := cmd)
      have hlen := encL_length bundle chk cmd
      refine core8_yes b off cap _ _ _ _ _ _ _ _ _ true _ _ _ _ bundle chk cmd w h (by omega) (by omega) rfl rfl rfl rfl rfl rfl rfl rfl rfl rfl rfl rfl ?_ (.inl ⟨rfl, _, rfl, .inl ⟨rfl, hc, rfl⟩⟩) det_beq rfl hp (by omega)
      symm
      by_cases hk : chk = ByteArray.empty
      · have : (decide (4 ≤ (detB :: encL bundle chk cmd).length) && decide (encS true ((detB :: encL bundle chk cmd).getD 2 ByteArray.empty) ⟨#[]⟩ ((detB :: encL bundle chk cmd).drop 3) = detB :: encL bundle chk cmd)) = true := by
          rw [Bool.and_eq_true, decide_eq_true_eq, decide_eq_true_eq]
          refine ⟨by omega, ?_⟩
          rw [encS_yes]
          refine congrArg (detB :: ·) ?_
          rw [hk]
          exact enc_plain_back bundle cmd
        rw [this]; simp
      · have : (decide (5 ≤ (detB :: encL bundle chk cmd).length) && decide (encS true ((detB :: encL bundle chk cmd).getD 2 ByteArray.empty) ((detB :: encL bundle chk cmd).getD 3 ByteArray.empty) ((detB :: encL bundle chk cmd).drop 4) = detB :: encL bundle chk cmd)) = true := by
          rw [Bool.and_eq_true, decide_eq_true_eq, decide_eq_true_eq]
          refine ⟨by rcases hlen with ⟨_, hh⟩ | ⟨hh, _⟩ <;> first | exact absurd hh hk | omega, ?_⟩
          rw [encS_yes]
          exact congrArg (detB :: ·) (enc_check_back bundle chk cmd hk)
        rw [this]; simp
    · refine core8_no b off cap _ _ _ _ _ _ _ _ _ true w h (by omega) (by omega) rfl rfl rfl rfl rfl rfl rfl rfl ?_ ?_ ?_ ?_ (.inl ⟨rfl, ys, rfl, .inr ⟨rfl, hN, rfl, rfl, rfl⟩⟩) det_beq
      · refine false_dec ?_
        rw [encS_no]; exact encL_ne_det _ _ _ _
      · refine fun _ => false_dec ?_
        rw [encS_no]; exact encL_ne_det _ _ _ _
      · refine fun h4 => false_dec fun hh => ?_
        rw [encS_yes] at hh
        have hy := (List.cons.inj hh).2.symm
        exact hN ⟨_, _, _, drop_ne (xs := ys) (k := 2) (by omega), hy⟩
      · refine fun h4 => false_dec fun hh => ?_
        rw [encS_yes] at hh
        have hy := (List.cons.inj hh).2.symm
        exact hN ⟨_, _, _, drop_ne (xs := ys) (k := 3) (by omega), hy⟩
  · have hnd : ∀ ys, xs ≠ detB :: ys := fun ys hy => hdet ⟨ys, hy⟩
    have ho := open_no hnd (by omega)
    by_cases h3 : xs.length < 3
    · exact core8_few ao cap xs _ false w h (by omega) h3 rfl (.inr ⟨rfl, hnd, .inr ⟨rfl, fun hh => by have := named_len hh; omega, rfl, rfl, rfl⟩⟩) ho
    obtain ⟨b, off, rfl, _, _⟩ := h.some (by omega)
    by_cases hN : Named xs
    · obtain ⟨bundle, chk, cmd, hc, rfl⟩ := hN
      have hp := pos_of_ne hc
      have hle := cmd_le (b := bundle) (c := chk) (cmd := cmd)
      have hlen := encL_length bundle chk cmd
      refine core8_yes b off cap _ _ _ _ _ _ _ _ _ false _ _ _ _ bundle chk cmd w h (by omega) (by omega) rfl rfl rfl rfl rfl rfl rfl rfl rfl rfl rfl rfl ?_ (.inr ⟨rfl, hnd, .inl ⟨rfl, hc, rfl⟩⟩) ho rfl hp (by omega)
      symm
      by_cases hk : chk = ByteArray.empty
      · have : decide (encS false ((encL bundle chk cmd).getD 1 ByteArray.empty) ⟨#[]⟩ ((encL bundle chk cmd).drop 2) = encL bundle chk cmd) = true := by
          rw [decide_eq_true_eq, encS_no, hk]
          exact enc_plain_back bundle cmd
        rw [this]; simp
      · have : (decide (4 ≤ (encL bundle chk cmd).length) && decide (encS false ((encL bundle chk cmd).getD 1 ByteArray.empty) ((encL bundle chk cmd).getD 2 ByteArray.empty) ((encL bundle chk cmd).drop 3) = encL bundle chk cmd)) = true := by
          rw [Bool.and_eq_true, decide_eq_true_eq, decide_eq_true_eq]
          refine ⟨by rcases hlen with ⟨_, hh⟩ | ⟨hh, _⟩ <;> first | exact absurd hh hk | omega, ?_⟩
          exact enc_check_back bundle chk cmd hk
        rw [this]; simp
    · refine core8_no b off cap _ _ _ _ _ _ _ _ _ false w h (by omega) (by omega) rfl rfl rfl rfl rfl rfl rfl rfl ?_ ?_ ?_ ?_ (.inr ⟨rfl, hnd, .inr ⟨rfl, hN, rfl, rfl, rfl⟩⟩) ho
      · refine false_dec fun hh => ?_
        rw [encS_no] at hh
        exact hN ⟨_, _, _, drop_ne (by omega), hh.symm⟩
      · refine fun h4 => false_dec fun hh => ?_
        rw [encS_no] at hh
        exact hN ⟨_, _, _, drop_ne (by omega), hh.symm⟩
      · exact fun h4 => false_dec fun hh => hnd _ hh.symm
      · exact fun h4 => false_dec fun hh => hnd _ hh.symm

end Go.Proofs.Qxb6600665aMods
