/-
  FnParseSupervisorWhole (8): the walk, three words or more, the words name a supervision. By an AI agent.
-/
import Derived.Test.Qxb6600665aModsK10
namespace Go.Proofs.Qxb6600665aMods
open Go.RowKit

theorem encS_len {p : Bool} {bundle chk : ByteArray} {xs : List ByteArray} (h : xs.length + 4 ≤ 1000000) : (encS p bundle chk xs).length ≤ 1000000 := by
  unfold encS encL; split <;> split <;> simp <;> omega

/-- What the walk holds on to while it goes: the clone reads as xs, the command as cmd. -/
structure Held (w wr : World) (b off : Nat) (xs : List ByteArray) (ao : Option Addr) (cmd : List ByteArray) : Prop where
  args : Rd wr (some ⟨b, off, none⟩) xs.length xs
  cmd : Rd wr ao cmd.length cmd
  below : Below w.heap.size w wr
  lt : b < wr.heap.size

theorem Held.later {w wr w' : World} {b off : Nat} {xs : List ByteArray} {ao : Option Addr} {cmd : List ByteArray} (h : Held w wr b off xs ao cmd) (hb : Below wr.heap.size wr w') : Held w w' b off xs ao cmd :=
  ⟨h.args.later hb, h.cmd.later hb, next h.below hb, Nat.lt_of_lt_of_le h.lt hb.size⟩
theorem Held.drew {w wr : World} {b off : Nat} {xs : List ByteArray} {ao : Option Addr} {cmd : List ByteArray} (h : Held w wr b off xs ao cmd) : Held w wr.drew b off xs ao cmd :=
  ⟨h.args, h.cmd, h.below.drew, h.lt⟩
theorem Held.drewN {w wr : World} {b off : Nat} {xs : List ByteArray} {ao : Option Addr} {cmd : List ByteArray} (h : Held w wr b off xs ao cmd) (k : Nat) : Held w (wr.drewN k) b off xs ao cmd :=
  ⟨h.args, h.cmd, belowN h.below k, h.lt⟩
theorem Held.cell {w wr : World} {b off : Nat} {xs : List ByteArray} {ao : Option Addr} {cmd : List ByteArray} (h : Held w wr b off xs ao cmd) {s : ByteArray} (j : Nat) (hj : j < xs.length) (hs : s = xs.getD j ByteArray.empty) : wr.cell? ⟨b, off + j, none⟩ = some (.string s) := by
  obtain ⟨b', off', e, _, hc⟩ := h.args.some (by omega)
  cases e
  rw [hs]; exact hc j hj


theorem bool_of {a b : Bool} (h : a = b) : Value.bool a = Value.bool b := by rw [h]

set_option maxHeartbeats 4000000 in
theorem core8_yes (b off cap0 : Nat) (xs y10 y20 y11 y21 : List ByteArray) (s0 s1 s2 s3 : ByteArray) (p r10 r20 r11 r21 : Bool) (bundle chk : ByteArray) (cmd : List ByteArray) (w : World)
    (h : Rd w (some ⟨b, off, none⟩) xs.length xs) (hn : xs.length ≤ 65536) (h3 : 3 ≤ xs.length)
    (hs0 : s0 = xs.getD 0 ByteArray.empty) (hs1 : s1 = xs.getD 1 ByteArray.empty) (hs2 : s2 = xs.getD 2 ByteArray.empty) (hs3 : s3 = xs.getD 3 ByteArray.empty)
    (hy10 : y10 = encS false s1 ⟨#[]⟩ (xs.drop 2)) (hy20 : y20 = encS false s1 s2 (xs.drop 3)) (hy11 : y11 = encS true s2 ⟨#[]⟩ (xs.drop 3)) (hy21 : y21 = encS true s2 s3 (xs.drop 4))
    (hr10 : r10 = decide (y10 = xs)) (hr20 : r20 = (decide (4 ≤ xs.length) && decide (y20 = xs))) (hr11 : r11 = (decide (4 ≤ xs.length) && decide (y11 = xs))) (hr21 : r21 = (decide (5 ≤ xs.length) && decide (y21 = xs)))
    (hok : true = (r10 || r20 || (r11 || r21))) (hp : SParses xs p true bundle chk cmd) (hsp : (s0.toList == [100, 101, 116, 97, 99, 104, 101, 100]) = p)
    (hx : xs = encS p bundle chk cmd) (hpos : 0 < cmd.length) (hcl : cmd.length ≤ 100000) :
    Calls Trym.prog 8 #[.slice (some ⟨b, off, none⟩) xs.length cap0] w fun e w' => e = .returned (.bool true) ∧ Below w.heap.size w w' := by
  have HB := bytes27 (cap := cap0) h
  have HS := size21 (cap := cap0) h
  have HC := clone22 (cap := cap0) h hn
  have H0 : Hid (s0 = xs.getD 0 ByteArray.empty) := hs0
  have H1 : Hid (s1 = xs.getD 1 ByteArray.empty) := hs1
  have H2 : Hid (s2 = xs.getD 2 ByteArray.empty) := hs2
  have H3 : Hid (s3 = xs.getD 3 ByteArray.empty) := hs3
  have ly10 : y10.length ≤ 1000000 := by rw [hy10]; exact encS_len (by simp; omega)
  have ly20 : y20.length ≤ 1000000 := by rw [hy20]; exact encS_len (by simp; omega)
  have ly11 : y11.length ≤ 1000000 := by rw [hy11]; exact encS_len (by simp; omega)
  have ly21 : y21.length ≤ 1000000 := by rw [hy21]; exact encS_len (by simp; omega)
  have Y10 : Hid (y10 = encS false s1 ⟨#[]⟩ (xs.drop 2)) := hy10
  have Y20 : Hid (y20 = encS false s1 s2 (xs.drop 3)) := hy20
  have Y11 : Hid (y11 = encS true s2 ⟨#[]⟩ (xs.drop 3)) := hy11
  have Y21 : Hid (y21 = encS true s2 s3 (xs.drop 4)) := hy21
  have R10 : Hid (r10 = decide (y10 = xs)) := hr10
  have R20 : Hid (r20 = (decide (4 ≤ xs.length) && decide (y20 = xs))) := hr20
  have R11 : Hid (r11 = (decide (4 ≤ xs.length) && decide (y11 = xs))) := hr11
  have R21 : Hid (r21 = (decide (5 ≤ xs.length) && decide (y21 = xs))) := hr21
  have OK : Hid (true = (r10 || r20 || (r11 || r21))) := hok
  have PP : Hid (SParses xs p true bundle chk cmd) := hp
  have SP : Hid ((s0.toList == [100, 101, 116, 97, 99, 104, 101, 100]) = p) := hsp
  have X : Hid (xs = encS p bundle chk cmd) := hx
  clear h hs0 hs1 hs2 hs3 hy10 hy20 hy11 hy21 hr10 hr20 hr11 hr21 hok hp hsp hx
  go_enter Trym.func8, Trym.ntmps8
  go_wp2_with fail
  refine HB.mono ?_
  clear HB
  rintro e w1 ⟨⟨r, rfl⟩, hw1⟩
  have hw1 := hw1.symm
  subst hw1
  cases r
  · go_wp2
    go_ret
    exact ⟨rfl, Below.refl _ _⟩
  go_wp2_with fail
  refine HS.mono ?_
  clear HS
  rintro e w1 ⟨⟨z, hz0, hz1, rfl⟩, hw1⟩
  have hw1 := hw1.symm
  subst hw1
  by_cases hz : 1048576 < z
  · go_wp2
    go_ret
    exact ⟨rfl, Below.refl _ _⟩
  go_wp2_with fail
  refine HC.mono ?_
  clear HC
  rintro e w1 ⟨⟨ao1, cap1, rfl, hcap1, hrd1⟩, hbel1⟩
  obtain ⟨b1, off1, rfl, hb1, _⟩ := hrd1.some (by omega)
  have HR1 : Hid (Rd w1 (some ⟨b1, off1, none⟩) xs.length xs) := hrd1
  clear hrd1
  go_wp2_with fail
  refine (zz28 PP.out hcap1 HR1.out).mono ?_
  rintro e w2 ⟨⟨ao2, cap2, rfl, hcmd⟩, hbel2⟩
  have HH : Held w w2 b1 off1 xs ao2 cmd := ⟨HR1.out.later hbel2, hcmd.2.1, next hbel1 hbel2, Nat.lt_of_lt_of_le hb1 hbel2.size⟩
  clear HR1 hcmd hbel1 hbel2 hb1
  have g5 : (xs.length : Int) ≤ (cap1 : Int) := by omega
  have g6 : (3 : Int) ≤ (xs.length : Int) := by omega
  have g7 : (0 : Int) < (xs.length : Int) := by omega
  have g8 : (1 : Int) < (xs.length : Int) := by omega
  have g9 : (2 : Int) < (xs.length : Int) := by omega
  have g10 : (2 : Int) ≤ (xs.length : Int) := by omega
  have e2 : ¬ cap1 = 2 := by omega
  have v1 : IntKind.i64.wrap 1 = 1 := by decide
  have v2 : IntKind.i64.wrap 2 = 2 := by decide
  have v3 : IntKind.i64.wrap 3 = 3 := by decide
  have v4 : IntKind.i64.wrap 4 = 4 := by decide
  have v5 : IntKind.i64.wrap 5 = 5 := by decide
  go_wp2_with fail
  go_loopw [8, 9] (fun a i wr => Held w wr b1 off1 xs ao2 cmd ∧ ((i = .int .i64 0 ∧ a = .bool false) ∨ (i = .int .i64 1 ∧ a = .bool (r10 || r20)) ∨ (i = .int .i64 2 ∧ a = .bool true))) (fun _ i _ => (2 - intOf i).toNat)
  case atStart => exact ⟨HH, .inl ⟨rfl, rfl⟩⟩
  case round =>
    clear HH
    obtain ⟨HH, ⟨rfl, rfl⟩ | ⟨rfl, rfl⟩ | ⟨rfl, rfl⟩⟩ := hrel
    · -- the first round: not proper
      have d1 := HH.cell 1 (by omega) H1.out
      have d2 := HH.cell 2 (by omega) H2.out
      have HK : Hid (Held w wr b1 off1 xs ao2 cmd) := HH
      clear HH
      go_wp2_with fail
      go_region_held3 (fun w' => w'.cell? ⟨b1, off1 + 1, none⟩ = some (.string s1)) (go_keep) (first
        | (go_at_call 29; refine (encS29_is Y10.out ?_ ?_ (HK.out.args.drop 2).drew).mono ?_; omega; omega; rintro e w3 ⟨⟨ao3, cap3, rfl, hcap3, hrd3⟩, hbel3⟩; have d13 : w3.cell? ⟨b1, off1 + 1, none⟩ = some (.string s1) := (hbel3.cell (by exact HK.out.lt)).trans d1)
        | (go_at_call 24; refine (eq24_is r10 R10.out ?_ hrd3 (HK.out.drew.later hbel3).args).mono ?_; omega; rintro e w4 ⟨rfl, hbel4⟩; have d14 : w4.cell? ⟨b1, off1 + 1, none⟩ = some (.string s1) := (hbel4.cell (by exact (HK.out.drew.later hbel3).lt)).trans d13))
      have HK4 : Hid (Held w w4 b1 off1 xs ao2 cmd) := (HK.out.drew.later hbel3).later hbel4
      have d24 := HK4.out.cell 2 (by omega) H2.out
      clear HK d1 d2 d13 hrd3 hbel3 hbel4
      cases r10
      all_goals
        by_cases h4 : 4 ≤ xs.length
        · have g4 : (4 : Int) ≤ (xs.length : Int) := by omega
          have e3 : ¬ cap1 = 3 := by omega
          have Q20 : Hid (r20 = decide (y20 = xs)) := by have := R20.out; rw [decide_eq_true h4, Bool.true_and] at this; exact this
          go_wp2_with fail
          go_region_held3 (fun w' => w'.cell? ⟨b1, off1 + 1, none⟩ = some (.string s1) ∧ w'.cell? ⟨b1, off1 + 2, none⟩ = some (.string s2)) (go_keep) (first
            | (go_at_call 29; refine (encS29_is Y20.out ?_ ?_ (HK4.out.args.drop 3).drew).mono ?_; omega; omega; rintro e w5 ⟨⟨ao5, cap5, rfl, hcap5, hrd5⟩, hbel5⟩; have d15 : w5.cell? ⟨b1, off1 + 1, none⟩ = some (.string s1) := (hbel5.cell (by exact HK4.out.lt)).trans d14; have d25 : w5.cell? ⟨b1, off1 + 2, none⟩ = some (.string s2) := (hbel5.cell (by exact HK4.out.lt)).trans d24)
            | (go_at_call 24; refine (eq24_is r20 Q20.out ?_ hrd5 (HK4.out.drew.later hbel5).args).mono ?_; omega; rintro e w6 ⟨rfl, hbel6⟩; have d16 : w6.cell? ⟨b1, off1 + 1, none⟩ = some (.string s1) := (hbel6.cell (by exact (HK4.out.drew.later hbel5).lt)).trans d15; have d26 : w6.cell? ⟨b1, off1 + 2, none⟩ = some (.string s2) := (hbel6.cell (by exact (HK4.out.drew.later hbel5).lt)).trans d25))
          have HK6 : Held w w6 b1 off1 xs ao2 cmd := (HK4.out.drew.later hbel5).later hbel6
          clear HK4 d14 d24 d15 d25 d16 d26 hrd5 hbel5 hbel6
          cases r20
          all_goals
            go_wp2
            go_roundw
            case rel => exact ⟨HK6, .inr (.inl ⟨rfl, rfl⟩)⟩
            case measure => decide
        · have g4 : decide ((4 : Int) ≤ (xs.length : Int)) = false := decide_eq_false (by omega)
          have Q20 : r20 = false := by have := R20.out; rw [decide_eq_false h4, Bool.false_and] at this; exact this
          subst Q20
          go_wp2_with fail
          go_quiet (fail)
          go_wp2
          go_roundw
          case rel => exact ⟨HK4.out.drewN _, .inr (.inl ⟨rfl, rfl⟩)⟩
          case measure => decide
    · -- the second round: proper
      have d2 := HH.cell 2 (by omega) H2.out
      have HK : Hid (Held w wr b1 off1 xs ao2 cmd) := HH
      clear HH
      by_cases h4 : 4 ≤ xs.length
      · have g4 : (4 : Int) ≤ (xs.length : Int) := by omega
        have g4' : (3 : Int) < (xs.length : Int) := by omega
        have e3 : ¬ cap1 = 3 := by omega
        have Q11 : Hid (r11 = decide (y11 = xs)) := by have := R11.out; rw [decide_eq_true h4, Bool.true_and] at this; exact this
        go_wp2_with fail
        go_region_held3 (fun w' => w'.cell? ⟨b1, off1 + 2, none⟩ = some (.string s2)) (go_keep) (first
          | (go_at_call 29; refine (encS29_is Y11.out ?_ ?_ (HK.out.args.drop 3).drew).mono ?_; omega; omega; rintro e w3 ⟨⟨ao3, cap3, rfl, hcap3, hrd3⟩, hbel3⟩; have d23 : w3.cell? ⟨b1, off1 + 2, none⟩ = some (.string s2) := (hbel3.cell (by exact HK.out.lt)).trans d2)
          | (go_at_call 24; refine (eq24_is r11 Q11.out ?_ hrd3 (HK.out.drew.later hbel3).args).mono ?_; omega; rintro e w4 ⟨rfl, hbel4⟩; have d24 : w4.cell? ⟨b1, off1 + 2, none⟩ = some (.string s2) := (hbel4.cell (by exact (HK.out.drew.later hbel3).lt)).trans d23))
        have HK4 : Hid (Held w w4 b1 off1 xs ao2 cmd) := (HK.out.drew.later hbel3).later hbel4
        have d34 := HK4.out.cell 3 (by omega) H3.out
        clear HK d2 d23 hrd3 hbel3 hbel4
        cases r11
        all_goals
          by_cases h5 : 5 ≤ xs.length
          · have g5' : (5 : Int) ≤ (xs.length : Int) := by omega
            have e4 : ¬ cap1 = 4 := by omega
            have Q21 : Hid (r21 = decide (y21 = xs)) := by have := R21.out; rw [decide_eq_true h5, Bool.true_and] at this; exact this
            go_wp2_with fail
            go_region_held3 (fun w' => w'.cell? ⟨b1, off1 + 2, none⟩ = some (.string s2) ∧ w'.cell? ⟨b1, off1 + 3, none⟩ = some (.string s3)) (go_keep) (first
              | (go_at_call 29; refine (encS29_is Y21.out ?_ ?_ (HK4.out.args.drop 4).drew).mono ?_; omega; omega; rintro e w5 ⟨⟨ao5, cap5, rfl, hcap5, hrd5⟩, hbel5⟩; have d25 : w5.cell? ⟨b1, off1 + 2, none⟩ = some (.string s2) := (hbel5.cell (by exact HK4.out.lt)).trans d24; have d35 : w5.cell? ⟨b1, off1 + 3, none⟩ = some (.string s3) := (hbel5.cell (by exact HK4.out.lt)).trans d34)
              | (go_at_call 24; refine (eq24_is r21 Q21.out ?_ hrd5 (HK4.out.drew.later hbel5).args).mono ?_; omega; rintro e w6 ⟨rfl, hbel6⟩; have d26 : w6.cell? ⟨b1, off1 + 2, none⟩ = some (.string s2) := (hbel6.cell (by exact (HK4.out.drew.later hbel5).lt)).trans d25; have d36 : w6.cell? ⟨b1, off1 + 3, none⟩ = some (.string s3) := (hbel6.cell (by exact (HK4.out.drew.later hbel5).lt)).trans d35))
            have HK6 : Held w w6 b1 off1 xs ao2 cmd := (HK4.out.drew.later hbel5).later hbel6
            clear HK4 d24 d34 d25 d35 d26 d36 hrd5 hbel5 hbel6
            cases r21
            all_goals
              go_wp2
              go_roundw
              case rel => exact ⟨HK6, .inr (.inr ⟨rfl, bool_of (by first | rfl | simpa using OK.out)⟩)⟩
              case measure => decide
          · have g5' : decide ((5 : Int) ≤ (xs.length : Int)) = false := decide_eq_false (by omega)
            have Q21 : r21 = false := by have := R21.out; rw [decide_eq_false h5, Bool.false_and] at this; exact this
            subst Q21
            go_wp2_with fail
            go_quiet (fail)
            go_wp2
            go_roundw
            case rel => exact ⟨HK4.out.drewN _, .inr (.inr ⟨rfl, bool_of (by first | rfl | simpa using OK.out)⟩)⟩
            case measure => decide
      · have g4 : decide ((4 : Int) ≤ (xs.length : Int)) = false := decide_eq_false (by omega)
        have g5' : decide ((5 : Int) ≤ (xs.length : Int)) = false := decide_eq_false (by omega)
        have Q11 : r11 = false := by have := R11.out; rw [decide_eq_false h4, Bool.false_and] at this; exact this
        have Q21 : r21 = false := by have := R21.out; rw [decide_eq_false (by omega), Bool.false_and] at this; exact this
        subst Q11 Q21
        go_wp2_with fail
        go_quiet (fail)
        go_wp2_with fail
        go_quiet (fail)
        go_wp2
        go_roundw
        case rel => exact ⟨HK.out.drewN _, .inr (.inr ⟨rfl, bool_of (by first | rfl | simpa using OK.out)⟩)⟩
        case measure => decide
    · -- behind the loop
      have d0 : wr.cell? ⟨b1, off1, none⟩ = some (.string s0) := HH.cell 0 (by omega) H0.out
      have HK : Hid (Held w wr b1 off1 xs ao2 cmd) := HH
      clear HH
      go_wp2_with fail
      refine (encS29_is X.out hpos hcl HK.out.cmd).mono ?_
      rintro e w7 ⟨⟨ao7, cap7, rfl, hcap7, hrd7⟩, hbel7⟩
      have HR7 : Hid (Rd w7 ao7 xs.length xs) := hrd7
      have HK7 : Hid (Held w w7 b1 off1 xs ao2 cmd) := HK.out.later hbel7
      clear hrd7 hbel7 HK d0
      go_wp2_with fail
      refine (eq24_is true (by simp) (by omega) HR7.out HK7.out.args).mono ?_
      rintro e w8 ⟨rfl, hbel8⟩
      go_wp2
      go_ret
      exact ⟨rfl, next HK7.out.below hbel8⟩

end Go.Proofs.Qxb6600665aMods
