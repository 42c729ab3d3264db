/-
  FnParseSupervisorWhole (8): the other cases of the walk. By an AI agent.
-/
import Derived.Test.Qxb6600665aModsN1
namespace Go.Proofs.Qxb6600665aMods
open Go.RowKit

set_option maxHeartbeats 4000000 in
theorem core8_no (b off cap0 : Nat) (xs y10 y20 y11 y21 : List ByteArray) (s0 s1 s2 s3 : ByteArray) (p : Bool) (w : World)
    (h : Rd w (some ⟨b, off, none⟩) xs.length xs) (hn : xs.length ≤ 65536) (h3 : 3 ≤ xs.length)
    (hs0 : s0 = xs.getD 0 ByteArray.empty) (hs1 : s1 = xs.getD 1 ByteArray.empty) (hs2 : s2 = xs.getD 2 ByteArray.empty) (hs3 : s3 = xs.getD 3 ByteArray.empty)
    (hy10 : y10 = encS false s1 ⟨#[]⟩ (xs.drop 2)) (hy20 : y20 = encS false s1 s2 (xs.drop 3)) (hy11 : y11 = encS true s2 ⟨#[]⟩ (xs.drop 3)) (hy21 : y21 = encS true s2 s3 (xs.drop 4))
    (hr10 : false = decide (y10 = xs)) (hr20 : 4 ≤ xs.length → false = decide (y20 = xs)) (hr11 : 4 ≤ xs.length → false = decide (y11 = xs)) (hr21 : 5 ≤ xs.length → false = decide (y21 = xs))
    (hp : SParses xs p false ⟨#[]⟩ ⟨#[]⟩ []) (hsp : (s0.toList == [100, 101, 116, 97, 99, 104, 101, 100]) = p) :
    Calls Trym.prog 8 #[.slice (some ⟨b, off, none⟩) xs.length cap0] w fun e w' => e = .returned (.bool true) ∧ Below w.heap.size w w' := by
  have q35 : ∀ (w : World) (a : Option Addr) (n c n' c' : Nat), (binOp .eql 35 (.slice a n c) (.slice none n' c')).run Trym.prog w = .ok (.bool a.isNone) w := fun w a n c n' c' => Lib.run_eql_slice_nil w _ _ a n c n' c' Trym.underlying35
  have HB := bytes27 (cap := cap0) h
  have HS := size21 (cap := cap0) h
  have HC := clone22 (cap := cap0) h hn
  have H0 : Hid (s0 = xs.getD 0 ByteArray.empty) := hs0
  have H1 : Hid (s1 = xs.getD 1 ByteArray.empty) := hs1
  have H2 : Hid (s2 = xs.getD 2 ByteArray.empty) := hs2
  have H3 : Hid (s3 = xs.getD 3 ByteArray.empty) := hs3
  have ly10 : y10.length ≤ 1000000 := by rw [hy10]; exact encS_len (by simp; omega)
  have ly20 : y20.length ≤ 1000000 := by rw [hy20]; exact encS_len (by simp; omega)
  have ly11 : y11.length ≤ 1000000 := by rw [hy11]; exact encS_len (by simp; omega)
  have ly21 : y21.length ≤ 1000000 := by rw [hy21]; exact encS_len (by simp; omega)
  have Y10 : Hid (y10 = encS false s1 ⟨#[]⟩ (xs.drop 2)) := hy10
  have Y20 : Hid (y20 = encS false s1 s2 (xs.drop 3)) := hy20
  have Y11 : Hid (y11 = encS true s2 ⟨#[]⟩ (xs.drop 3)) := hy11
  have Y21 : Hid (y21 = encS true s2 s3 (xs.drop 4)) := hy21
  have R10 : Hid (false = decide (y10 = xs)) := hr10
  have R20 : Hid (4 ≤ xs.length → false = decide (y20 = xs)) := hr20
  have R11 : Hid (4 ≤ xs.length → false = decide (y11 = xs)) := hr11
  have R21 : Hid (5 ≤ xs.length → false = decide (y21 = xs)) := hr21
  have PP : Hid (SParses xs p false ⟨#[]⟩ ⟨#[]⟩ []) := hp
  have SP : Hid ((s0.toList == [100, 101, 116, 97, 99, 104, 101, 100]) = p) := hsp
  clear h hs0 hs1 hs2 hs3 hy10 hy20 hy11 hy21 hr10 hr20 hr11 hr21 hp hsp
  go_enter Trym.func8, Trym.ntmps8
  go_wp2_with fail
  refine HB.mono ?_
  clear HB
  rintro e w1 ⟨⟨r, rfl⟩, hw1⟩
  have hw1 := hw1.symm
  subst hw1
  cases r
  · go_wp2
    go_ret
    exact ⟨rfl, Below.refl _ _⟩
  go_wp2_with fail
  refine HS.mono ?_
  clear HS
  rintro e w1 ⟨⟨z, hz0, hz1, rfl⟩, hw1⟩
  have hw1 := hw1.symm
  subst hw1
  by_cases hz : 1048576 < z
  · go_wp2
    go_ret
    exact ⟨rfl, Below.refl _ _⟩
  go_wp2_with fail
  refine HC.mono ?_
  clear HC
  rintro e w1 ⟨⟨ao1, cap1, rfl, hcap1, hrd1⟩, hbel1⟩
  obtain ⟨b1, off1, rfl, hb1, _⟩ := hrd1.some (by omega)
  have HR1 : Hid (Rd w1 (some ⟨b1, off1, none⟩) xs.length xs) := hrd1
  clear hrd1
  go_wp2_with fail
  refine (zz28 PP.out hcap1 HR1.out).mono ?_
  rintro e w2 ⟨⟨ao2, cap2, rfl, hcmd⟩, hbel2⟩
  obtain ⟨rfl, rfl⟩ := hcmd.2.2 rfl
  have HH : Held w w2 b1 off1 xs none [] := ⟨HR1.out.later hbel2, hcmd.2.1, next hbel1 hbel2, Nat.lt_of_lt_of_le hb1 hbel2.size⟩
  clear HR1 hcmd hbel1 hbel2 hb1
  have g5 : (xs.length : Int) ≤ (cap1 : Int) := by omega
  have g6 : (3 : Int) ≤ (xs.length : Int) := by omega
  have g7 : (0 : Int) < (xs.length : Int) := by omega
  have g8 : (1 : Int) < (xs.length : Int) := by omega
  have g9 : (2 : Int) < (xs.length : Int) := by omega
  have g10 : (2 : Int) ≤ (xs.length : Int) := by omega
  have e2 : ¬ cap1 = 2 := by omega
  have v1 : IntKind.i64.wrap 1 = 1 := by decide
  have v2 : IntKind.i64.wrap 2 = 2 := by decide
  have v3 : IntKind.i64.wrap 3 = 3 := by decide
  have v4 : IntKind.i64.wrap 4 = 4 := by decide
  have v5 : IntKind.i64.wrap 5 = 5 := by decide
  go_wp2_with fail
  go_loopw [8, 9] (fun a i wr => Held w wr b1 off1 xs none [] ∧ ((i = .int .i64 0 ∧ a = .bool false) ∨ (i = .int .i64 1 ∧ a = .bool false) ∨ (i = .int .i64 2 ∧ a = .bool false))) (fun _ i _ => (2 - intOf i).toNat)
  case atStart => exact ⟨HH, .inl ⟨rfl, rfl⟩⟩
  case round =>
    clear HH
    obtain ⟨HH, ⟨rfl, rfl⟩ | ⟨rfl, rfl⟩ | ⟨rfl, rfl⟩⟩ := hrel
    · -- the first round: not proper
      have d1 := HH.cell 1 (by omega) H1.out
      have d2 := HH.cell 2 (by omega) H2.out
      have HK : Hid (Held w wr b1 off1 xs none []) := HH
      clear HH
      go_wp2_with fail
      go_region_held3 (fun w' => w'.cell? ⟨b1, off1 + 1, none⟩ = some (.string s1)) (go_keep) (first
        | (go_at_call 29; refine (encS29_is Y10.out ?_ ?_ (HK.out.args.drop 2).drew).mono ?_; omega; omega; rintro e w3 ⟨⟨ao3, cap3, rfl, hcap3, hrd3⟩, hbel3⟩; have d13 : w3.cell? ⟨b1, off1 + 1, none⟩ = some (.string s1) := (hbel3.cell (by exact HK.out.lt)).trans d1)
        | (go_at_call 24; refine (eq24_is false R10.out ?_ hrd3 (HK.out.drew.later hbel3).args).mono ?_; omega; rintro e w4 ⟨rfl, hbel4⟩; have d14 : w4.cell? ⟨b1, off1 + 1, none⟩ = some (.string s1) := (hbel4.cell (by exact (HK.out.drew.later hbel3).lt)).trans d13))
      have HK4 : Hid (Held w w4 b1 off1 xs none []) := (HK.out.drew.later hbel3).later hbel4
      have d24 := HK4.out.cell 2 (by omega) H2.out
      clear HK d1 d2 d13 hrd3 hbel3 hbel4
      by_cases h4 : 4 ≤ xs.length
      · have g4 : (4 : Int) ≤ (xs.length : Int) := by omega
        have e3 : ¬ cap1 = 3 := by omega
        go_wp2_with fail
        go_region_held3 (fun w' => w'.cell? ⟨b1, off1 + 1, none⟩ = some (.string s1) ∧ w'.cell? ⟨b1, off1 + 2, none⟩ = some (.string s2)) (go_keep) (first
          | (go_at_call 29; refine (encS29_is Y20.out ?_ ?_ (HK4.out.args.drop 3).drew).mono ?_; omega; omega; rintro e w5 ⟨⟨ao5, cap5, rfl, hcap5, hrd5⟩, hbel5⟩; have d15 : w5.cell? ⟨b1, off1 + 1, none⟩ = some (.string s1) := (hbel5.cell (by exact HK4.out.lt)).trans d14; have d25 : w5.cell? ⟨b1, off1 + 2, none⟩ = some (.string s2) := (hbel5.cell (by exact HK4.out.lt)).trans d24)
          | (go_at_call 24; refine (eq24_is false (R20.out h4) ?_ hrd5 (HK4.out.drew.later hbel5).args).mono ?_; omega; rintro e w6 ⟨rfl, hbel6⟩; have d16 : w6.cell? ⟨b1, off1 + 1, none⟩ = some (.string s1) := (hbel6.cell (by exact (HK4.out.drew.later hbel5).lt)).trans d15; have d26 : w6.cell? ⟨b1, off1 + 2, none⟩ = some (.string s2) := (hbel6.cell (by exact (HK4.out.drew.later hbel5).lt)).trans d25))
        have HK6 : Held w w6 b1 off1 xs none [] := (HK4.out.drew.later hbel5).later hbel6
        clear HK4 d14 d24 d15 d25 d16 d26 hrd5 hbel5 hbel6
        go_wp2
        go_roundw
        case rel => exact ⟨HK6, .inr (.inl ⟨rfl, rfl⟩)⟩
        case measure => decide
      · have g4 : decide ((4 : Int) ≤ (xs.length : Int)) = false := decide_eq_false (by omega)
        go_wp2_with fail
        go_quiet (fail)
        go_wp2
        go_roundw
        case rel => exact ⟨HK4.out.drewN _, .inr (.inl ⟨rfl, rfl⟩)⟩
        case measure => decide
    · -- the second round: proper
      have d2 := HH.cell 2 (by omega) H2.out
      have HK : Hid (Held w wr b1 off1 xs none []) := HH
      clear HH
      by_cases h4 : 4 ≤ xs.length
      · have g4 : (4 : Int) ≤ (xs.length : Int) := by omega
        have g4' : (3 : Int) < (xs.length : Int) := by omega
        have e3 : ¬ cap1 = 3 := by omega
        go_wp2_with fail
        go_region_held3 (fun w' => w'.cell? ⟨b1, off1 + 2, none⟩ = some (.string s2)) (go_keep) (first
          | (go_at_call 29; refine (encS29_is Y11.out ?_ ?_ (HK.out.args.drop 3).drew).mono ?_; omega; omega; rintro e w3 ⟨⟨ao3, cap3, rfl, hcap3, hrd3⟩, hbel3⟩; have d23 : w3.cell? ⟨b1, off1 + 2, none⟩ = some (.string s2) := (hbel3.cell (by exact HK.out.lt)).trans d2)
          | (go_at_call 24; refine (eq24_is false (R11.out h4) ?_ hrd3 (HK.out.drew.later hbel3).args).mono ?_; omega; rintro e w4 ⟨rfl, hbel4⟩; have d24 : w4.cell? ⟨b1, off1 + 2, none⟩ = some (.string s2) := (hbel4.cell (by exact (HK.out.drew.later hbel3).lt)).trans d23))
        have HK4 : Hid (Held w w4 b1 off1 xs none []) := (HK.out.drew.later hbel3).later hbel4
        have d34 := HK4.out.cell 3 (by omega) H3.out
        clear HK d2 d23 hrd3 hbel3 hbel4
        by_cases h5 : 5 ≤ xs.length
        · have g5' : (5 : Int) ≤ (xs.length : Int) := by omega
          have e4 : ¬ cap1 = 4 := by omega
          go_wp2_with fail
          go_region_held3 (fun w' => w'.cell? ⟨b1, off1 + 2, none⟩ = some (.string s2) ∧ w'.cell? ⟨b1, off1 + 3, none⟩ = some (.string s3)) (go_keep) (first
            | (go_at_call 29; refine (encS29_is Y21.out ?_ ?_ (HK4.out.args.drop 4).drew).mono ?_; omega; omega; rintro e w5 ⟨⟨ao5, cap5, rfl, hcap5, hrd5⟩, hbel5⟩; have d25 : w5.cell? ⟨b1, off1 + 2, none⟩ = some (.string s2) := (hbel5.cell (by exact HK4.out.lt)).trans d24; have d35 : w5.cell? ⟨b1, off1 + 3, none⟩ = some (.string s3) := (hbel5.cell (by exact HK4.out.lt)).trans d34)
            | (go_at_call 24; refine (eq24_is false (R21.out h5) ?_ hrd5 (HK4.out.drew.later hbel5).args).mono ?_; omega; rintro e w6 ⟨rfl, hbel6⟩; have d26 : w6.cell? ⟨b1, off1 + 2, none⟩ = some (.string s2) := (hbel6.cell (by exact (HK4.out.drew.later hbel5).lt)).trans d25; have d36 : w6.cell? ⟨b1, off1 + 3, none⟩ = some (.string s3) := (hbel6.cell (by exact (HK4.out.drew.later hbel5).lt)).trans d35))
          have HK6 : Held w w6 b1 off1 xs none [] := (HK4.out.drew.later hbel5).later hbel6
          clear HK4 d24 d34 d25 d35 d26 d36 hrd5 hbel5 hbel6
          go_wp2
          go_roundw
          case rel => exact ⟨HK6, .inr (.inr ⟨rfl, rfl⟩)⟩
          case measure => decide
        · have g5' : decide ((5 : Int) ≤ (xs.length : Int)) = false := decide_eq_false (by omega)
          go_wp2_with fail
          go_quiet (fail)
          go_wp2
          go_roundw
          case rel => exact ⟨HK4.out.drewN _, .inr (.inr ⟨rfl, rfl⟩)⟩
          case measure => decide
      · have g4 : decide ((4 : Int) ≤ (xs.length : Int)) = false := decide_eq_false (by omega)
        have g5' : decide ((5 : Int) ≤ (xs.length : Int)) = false := decide_eq_false (by omega)
        go_wp2_with fail
        go_quiet (fail)
        go_wp2_with fail
        go_quiet (fail)
        go_wp2
        go_roundw
        case rel => exact ⟨HK.out.drewN _, .inr (.inr ⟨rfl, rfl⟩)⟩
        case measure => decide
    · -- behind the loop
      have d0 : wr.cell? ⟨b1, off1, none⟩ = some (.string s0) := HH.cell 0 (by omega) H0.out
      have HK : Hid (Held w wr b1 off1 xs none []) := HH
      clear HH
      have sp := SP.out
      go_wp2
      go_ret
      exact ⟨ret_bool (by simp), HK.out.below⟩

end Go.Proofs.Qxb6600665aMods
