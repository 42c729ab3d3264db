/-
  FnParseSupervisorWhole (8): fewer than three words; too many. By an AI agent.
-/
import Derived.Test.Qxb6600665aModsN1
namespace Go.Proofs.Qxb6600665aMods
open Go.RowKit

set_option maxHeartbeats 1000000 in
theorem core8_few (ao : Option Addr) (cap0 : Nat) (xs : List ByteArray) (s0 : ByteArray) (p : Bool) (w : World)
    (h : Rd w ao xs.length xs) (h0 : 0 < xs.length) (h3 : xs.length < 3) (hs0 : s0 = xs.getD 0 ByteArray.empty)
    (hp : SParses xs p false ⟨#[]⟩ ⟨#[]⟩ []) (hsp : (s0.toList == [100, 101, 116, 97, 99, 104, 101, 100]) = p) :
    Calls Trym.prog 8 #[.slice ao xs.length cap0] w fun e w' => e = .returned (.bool true) ∧ Below w.heap.size w w' := by
  have q35 : ∀ (w : World) (a : Option Addr) (n c n' c' : Nat), (binOp .eql 35 (.slice a n c) (.slice none n' c')).run Trym.prog w = .ok (.bool a.isNone) w := fun w a n c n' c' => Lib.run_eql_slice_nil w _ _ a n c n' c' Trym.underlying35
  have hn : xs.length ≤ 65536 := by omega
  have HB := bytes27 (cap := cap0) h
  have HS := size21 (cap := cap0) h
  have HC := clone22 (cap := cap0) h hn
  have H0 : Hid (s0 = xs.getD 0 ByteArray.empty) := hs0
  have PP : Hid (SParses xs p false ⟨#[]⟩ ⟨#[]⟩ []) := hp
  have SP : Hid ((s0.toList == [100, 101, 116, 97, 99, 104, 101, 100]) = p) := hsp
  clear h hs0 hp hsp
  go_enter Trym.func8, Trym.ntmps8
  go_wp2_with fail
  refine HB.mono ?_
  clear HB
  rintro e w1 ⟨⟨r, rfl⟩, hw1⟩
  have hw1 := hw1.symm
  subst hw1
  cases r
  · go_wp2
    go_ret
    exact ⟨rfl, Below.refl _ _⟩
  go_wp2_with fail
  refine HS.mono ?_
  clear HS
  rintro e w1 ⟨⟨z, hz0, hz1, rfl⟩, hw1⟩
  have hw1 := hw1.symm
  subst hw1
  by_cases hz : 1048576 < z
  · go_wp2
    go_ret
    exact ⟨rfl, Below.refl _ _⟩
  go_wp2_with fail
  refine HC.mono ?_
  clear HC
  rintro e w1 ⟨⟨ao1, cap1, rfl, hcap1, hrd1⟩, hbel1⟩
  obtain ⟨b1, off1, rfl, hb1, _⟩ := hrd1.some h0
  have HR1 : Hid (Rd w1 (some ⟨b1, off1, none⟩) xs.length xs) := hrd1
  clear hrd1
  go_wp2_with fail
  refine (zz28 PP.out hcap1 HR1.out).mono ?_
  rintro e w2 ⟨⟨ao2, cap2, rfl, hcmd⟩, hbel2⟩
  obtain ⟨rfl, rfl⟩ := hcmd.2.2 rfl
  have HH : Held w w2 b1 off1 xs none [] := ⟨HR1.out.later hbel2, hcmd.2.1, next hbel1 hbel2, Nat.lt_of_lt_of_le hb1 hbel2.size⟩
  clear HR1 hcmd hbel1 hbel2 hb1
  have v3 : IntKind.i64.wrap 3 = 3 := by decide
  have v4 : IntKind.i64.wrap 4 = 4 := by decide
  have v5 : IntKind.i64.wrap 5 = 5 := by decide
  have g3 : decide ((3 : Int) ≤ (xs.length : Int)) = false := decide_eq_false (by omega)
  have g4 : decide ((4 : Int) ≤ (xs.length : Int)) = false := decide_eq_false (by omega)
  have g5 : decide ((5 : Int) ≤ (xs.length : Int)) = false := decide_eq_false (by omega)
  have g7 : (0 : Int) < (xs.length : Int) := by omega
  go_wp2_with fail
  go_loopw [8, 9] (fun a i wr => Held w wr b1 off1 xs none [] ∧ ((i = .int .i64 0 ∧ a = .bool false) ∨ (i = .int .i64 1 ∧ a = .bool false) ∨ (i = .int .i64 2 ∧ a = .bool false))) (fun _ i _ => (2 - intOf i).toNat)
  case atStart => exact ⟨HH, .inl ⟨rfl, rfl⟩⟩
  case round =>
    clear HH
    obtain ⟨HH, ⟨rfl, rfl⟩ | ⟨rfl, rfl⟩ | ⟨rfl, rfl⟩⟩ := hrel
    · have HK : Hid (Held w wr b1 off1 xs none []) := HH
      clear HH
      go_wp2_with fail
      go_quiet (fail)
      go_wp2_with fail
      go_quiet (fail)
      go_wp2
      go_roundw
      case rel => exact ⟨HK.out.drewN _, .inr (.inl ⟨rfl, rfl⟩)⟩
      case measure => decide
    · have HK : Hid (Held w wr b1 off1 xs none []) := HH
      clear HH
      go_wp2_with fail
      go_quiet (fail)
      go_wp2_with fail
      go_quiet (fail)
      go_wp2
      go_roundw
      case rel => exact ⟨HK.out.drewN _, .inr (.inr ⟨rfl, rfl⟩)⟩
      case measure => decide
    · have d0 : wr.cell? ⟨b1, off1, none⟩ = some (.string s0) := HH.cell 0 (by omega) H0.out
      have HK : Hid (Held w wr b1 off1 xs none []) := HH
      clear HH
      have sp := SP.out
      go_wp2
      go_ret
      exact ⟨ret_bool (by simp), HK.out.below⟩

set_option maxHeartbeats 1000000 in
theorem core8_zero (ao : Option Addr) (cap0 : Nat) (xs : List ByteArray) (w : World) (h : Rd w ao 0 xs) (hp : SParses xs false false ⟨#[]⟩ ⟨#[]⟩ []) :
    Calls Trym.prog 8 #[.slice ao 0 cap0] w fun e w' => e = .returned (.bool true) ∧ Below w.heap.size w w' := by
  have q35 : ∀ (w : World) (a : Option Addr) (n c n' c' : Nat), (binOp .eql 35 (.slice a n c) (.slice none n' c')).run Trym.prog w = .ok (.bool a.isNone) w := fun w a n c n' c' => Lib.run_eql_slice_nil w _ _ a n c n' c' Trym.underlying35
  obtain rfl : xs = [] := List.eq_nil_of_length_eq_zero h.len.symm
  have HB := bytes27 (cap := cap0) h
  have HS := size21 (cap := cap0) h
  have HC := clone22 (cap := cap0) h (by omega)
  have PP : Hid (SParses [] false false ⟨#[]⟩ ⟨#[]⟩ []) := hp
  clear h hp
  go_enter Trym.func8, Trym.ntmps8
  go_wp2_with fail
  refine HB.mono ?_
  clear HB
  rintro e w1 ⟨⟨r, rfl⟩, hw1⟩
  have hw1 := hw1.symm
  subst hw1
  cases r
  · go_wp2
    go_ret
    exact ⟨rfl, Below.refl _ _⟩
  go_wp2_with fail
  refine HS.mono ?_
  clear HS
  rintro e w1 ⟨⟨z, hz0, hz1, rfl⟩, hw1⟩
  have hw1 := hw1.symm
  subst hw1
  by_cases hz : 1048576 < z
  · go_wp2
    go_ret
    exact ⟨rfl, Below.refl _ _⟩
  go_wp2_with fail
  refine HC.mono ?_
  clear HC
  rintro e w1 ⟨⟨ao1, cap1, rfl, hcap1, hrd1⟩, hbel1⟩
  have HR1 : Hid (Rd w1 ao1 0 []) := hrd1
  clear hrd1
  go_wp2_with fail
  refine (zz28 PP.out hcap1 HR1.out).mono ?_
  rintro e w2 ⟨⟨ao2, cap2, rfl, hcmd⟩, hbel2⟩
  obtain ⟨rfl, rfl⟩ := hcmd.2.2 rfl
  have HH : Below w.heap.size w w2 := next hbel1 hbel2
  clear HR1 hcmd hbel1 hbel2
  have v3 : IntKind.i64.wrap 3 = 3 := by decide
  have v4 : IntKind.i64.wrap 4 = 4 := by decide
  have v5 : IntKind.i64.wrap 5 = 5 := by decide
  go_wp2_with fail
  go_loopw [8, 9] (fun a i wr => Below w.heap.size w wr ∧ ((i = .int .i64 0 ∧ a = .bool false) ∨ (i = .int .i64 1 ∧ a = .bool false) ∨ (i = .int .i64 2 ∧ a = .bool false))) (fun _ i _ => (2 - intOf i).toNat)
  case atStart => exact ⟨HH, .inl ⟨rfl, rfl⟩⟩
  case round =>
    clear HH
    obtain ⟨HH, ⟨rfl, rfl⟩ | ⟨rfl, rfl⟩ | ⟨rfl, rfl⟩⟩ := hrel
    · have HK : Hid (Below w.heap.size w wr) := HH
      clear HH
      go_wp2_with fail
      go_quiet (fail)
      go_wp2_with fail
      go_quiet (fail)
      go_wp2
      go_roundw
      case rel => exact ⟨belowN HK.out _, .inr (.inl ⟨rfl, rfl⟩)⟩
      case measure => decide
    · have HK : Hid (Below w.heap.size w wr) := HH
      clear HH
      go_wp2_with fail
      go_quiet (fail)
      go_wp2_with fail
      go_quiet (fail)
      go_wp2
      go_roundw
      case rel => exact ⟨belowN HK.out _, .inr (.inr ⟨rfl, rfl⟩)⟩
      case measure => decide
    · have HK : Hid (Below w.heap.size w wr) := HH
      clear HH
      go_wp2
      go_ret
      exact ⟨rfl, HK.out⟩

set_option maxHeartbeats 400000 in
theorem long8 (ao : Option Addr) (n cap : Nat) (xs : List ByteArray) (w : World) (h : Rd w ao n xs) (hn : 65536 < n) :
    Calls Trym.prog 8 #[.slice ao n cap] w fun e w' => e = .returned (.bool true) ∧ Below w.heap.size w w' := by
  have HB := bytes27 (cap := cap) h
  clear h
  go_enter Trym.func8, Trym.ntmps8
  go_wp2_with fail
  refine HB.mono ?_
  clear HB
  rintro e w1 ⟨⟨r, rfl⟩, hw1⟩
  have hw1 := hw1.symm
  subst hw1
  cases r
  all_goals
    go_wp2
    go_ret
    exact ⟨rfl, Below.refl _ _⟩

end Go.Proofs.Qxb6600665aMods
