/-
  FnParseSupervisionWhole (6): the other cases of the walk. By an AI agent.
-/
import Derived.Test.Qxb6600665aModsL1
namespace Go.Proofs.Qxb6600665aMods
open Go.RowKit

theorem belowN {B : Nat} {a w : World} (h : Below B a w) (k : Nat) : Below B a (w.drewN k) := ⟨h.os, h.tape, h.output, h.size, h.block⟩

set_option maxHeartbeats 1000000 in
theorem core6_four_no (b off cap0 : Nat) (xs ys1 ys2 : List ByteArray) (s1 s2 : ByteArray) (w : World) (h : Rd w (some ⟨b, off, none⟩) xs.length xs) (hn : xs.length ≤ 65536) (h4 : 4 ≤ xs.length)
    (hs1 : s1 = xs.getD 1 ByteArray.empty) (hs2 : s2 = xs.getD 2 ByteArray.empty)
    (hy1 : ys1 = encL s1 ⟨#[]⟩ (xs.drop 2)) (hy2 : ys2 = encL s1 s2 (xs.drop 3))
    (hr1 : false = decide (ys1 = xs)) (hr2 : false = decide (ys2 = xs)) (hno : ¬ Named xs) :
    Calls Trym.prog 6 #[.slice (some ⟨b, off, none⟩) xs.length cap0] w fun e w' => e = .returned (.bool true) ∧ Below w.heap.size w w' := by
  have q35 : ∀ (w : World) (a : Option Addr) (n c n' c' : Nat), (binOp .eql 35 (.slice a n c) (.slice none n' c')).run Trym.prog w = .ok (.bool a.isNone) w := fun w a n c n' c' => Lib.run_eql_slice_nil w _ _ a n c n' c' Trym.underlying35
  have HB := bytes20 (cap := cap0) h
  have HS := size21 (cap := cap0) h
  have HC := clone22 (cap := cap0) h hn
  have H1 : Hid (s1 = xs.getD 1 ByteArray.empty) := hs1
  have H2 : Hid (s2 = xs.getD 2 ByteArray.empty) := hs2
  have Y1 : Hid (ys1 = encL s1 ⟨#[]⟩ (xs.drop 2)) := hy1
  have Y2 : Hid (ys2 = encL s1 s2 (xs.drop 3)) := hy2
  have R1 : Hid (false = decide (ys1 = xs)) := hr1
  have R2 : Hid (false = decide (ys2 = xs)) := hr2
  have X : Hid (¬ Named xs) := hno
  clear h hs1 hs2 hy1 hy2 hr1 hr2 hno
  go_enter Trym.func6, Trym.ntmps6
  go_wp2_with fail
  refine HB.mono ?_
  clear HB
  rintro e w1 ⟨⟨r, rfl⟩, hw1⟩
  have hw1 := hw1.symm
  subst hw1
  cases r
  · go_wp2
    go_ret
    exact ⟨rfl, Below.refl _ _⟩
  go_wp2_with fail
  refine HS.mono ?_
  clear HS
  rintro e w1 ⟨⟨z, hz0, hz1, rfl⟩, hw1⟩
  have hw1 := hw1.symm
  subst hw1
  by_cases hz : 1048576 < z
  · go_wp2
    go_ret
    exact ⟨rfl, Below.refl _ _⟩
  go_wp2_with fail
  refine HC.mono ?_
  clear HC
  rintro e w1 ⟨⟨ao1, cap1, rfl, hcap1, hrd1⟩, hbel1⟩
  obtain ⟨b1, off1, rfl, hb1, hcell1⟩ := hrd1.some (by omega)
  have HR1 : Hid (Rd w1 (some ⟨b1, off1, none⟩) xs.length xs) := hrd1
  have c1 : w1.cell? ⟨b1, off1 + 1, none⟩ = some (.string s1) := by rw [H1.out]; exact hcell1 1 (by omega)
  have c2 : w1.cell? ⟨b1, off1 + 2, none⟩ = some (.string s2) := by rw [H2.out]; exact hcell1 2 (by omega)
  clear hrd1 hcell1
  go_wp2_with fail
  refine (zz23_no HR1.out X.out).mono ?_
  rintro e w2 ⟨rfl, hbel2⟩
  have HR1' : Hid (Rd w2 (some ⟨b1, off1, none⟩) xs.length xs) := HR1.out.later hbel2
  have d1 : w2.cell? ⟨b1, off1 + 1, none⟩ = some (.string s1) := (hbel2.cell (by exact hb1)).trans c1
  have d2 : w2.cell? ⟨b1, off1 + 2, none⟩ = some (.string s2) := (hbel2.cell (by exact hb1)).trans c2
  have hb2 : b1 < w2.heap.size := Nat.lt_of_lt_of_le hb1 hbel2.size
  have hB2 : Below w.heap.size w w2 := hbel1.trans (hbel2.mono hbel1.size)
  clear c1 c2 HR1 hb1 hbel1 hbel2
  have g3 : (3 : Int) ≤ (xs.length : Int) := by omega
  have g4 : (4 : Int) ≤ (xs.length : Int) := by omega
  have g1 : (1 : Int) < (xs.length : Int) := by omega
  have g2 : (2 : Int) < (xs.length : Int) := by omega
  have g2' : (2 : Int) ≤ (xs.length : Int) := by omega
  have g5 : (xs.length : Int) ≤ (cap1 : Int) := by omega
  have g6 : (2 : Int) ≤ (cap1 : Int) := by omega
  have g7 : (3 : Int) ≤ (cap1 : Int) := by omega
  have g8 : ¬ cap1 = 2 := by omega
  have g9 : ¬ cap1 = 3 := by omega
  have ly1 : ys1.length ≤ 1000000 := by rw [Y1.out]; exact encL_len (by simp; omega)
  have ly2 : ys2.length ≤ 1000000 := by rw [Y2.out]; exact encL_len (by simp; omega)
  go_wp2_with fail
  go_region_held3 (fun w' => w'.cell? ⟨b1, off1 + 1, none⟩ = some (.string s1)) (go_keep) (first
    | (go_at_call 25; refine (enc25_is Y1.out ?_ ?_ (HR1'.out.drop 2).drew).mono ?_; omega; omega; rintro e w3 ⟨⟨ao3, cap3, rfl, hcap3, hrd3⟩, hbel3⟩; have d13 : w3.cell? ⟨b1, off1 + 1, none⟩ = some (.string s1) := (hbel3.cell (by exact hb2)).trans d1)
    | (go_at_call 24; refine (eq24_is false R1.out ?_ hrd3 (HR1'.out.drew.later hbel3)).mono ?_; omega; rintro e w4 ⟨rfl, hbel4⟩; have d14 : w4.cell? ⟨b1, off1 + 1, none⟩ = some (.string s1) := (hbel4.cell (by exact Nat.lt_of_lt_of_le hb2 hbel3.size)).trans d13))
  have hb4 : b1 < w4.heap.size := Nat.lt_of_lt_of_le (Nat.lt_of_lt_of_le hb2 hbel3.size) hbel4.size
  have d24 : w4.cell? ⟨b1, off1 + 2, none⟩ = some (.string s2) := (hbel4.cell (by exact Nat.lt_of_lt_of_le hb2 hbel3.size)).trans ((hbel3.cell (by exact hb2)).trans d2)
  have HR4 : Hid (Rd w4 (some ⟨b1, off1, none⟩) xs.length xs) := (HR1'.out.drew.later hbel3).later hbel4
  have hB4 : Below w.heap.size w w4 := next (next hB2.drew hbel3) hbel4
  clear HR1' d1 d2 hb2 hB2 hrd3 hbel3 hbel4 d13
  go_wp2_with fail
  go_region_held3 (fun w' => w'.cell? ⟨b1, off1 + 1, none⟩ = some (.string s1) ∧ w'.cell? ⟨b1, off1 + 2, none⟩ = some (.string s2)) (go_keep) (first
    | (go_at_call 25; refine (enc25_is Y2.out ?_ ?_ (HR4.out.drop 3).drew).mono ?_; omega; omega; rintro e w5 ⟨⟨ao5, cap5, rfl, hcap5, hrd5⟩, hbel5⟩; have d15 : w5.cell? ⟨b1, off1 + 1, none⟩ = some (.string s1) := (hbel5.cell (by exact hb4)).trans d14; have d25 : w5.cell? ⟨b1, off1 + 2, none⟩ = some (.string s2) := (hbel5.cell (by exact hb4)).trans d24)
    | (go_at_call 24; refine (eq24_is false R2.out ?_ hrd5 (HR4.out.drew.later hbel5)).mono ?_; omega; rintro e w6 ⟨rfl, hbel6⟩; have d16 : w6.cell? ⟨b1, off1 + 1, none⟩ = some (.string s1) := (hbel6.cell (by exact Nat.lt_of_lt_of_le hb4 hbel5.size)).trans d15; have d26 : w6.cell? ⟨b1, off1 + 2, none⟩ = some (.string s2) := (hbel6.cell (by exact Nat.lt_of_lt_of_le hb4 hbel5.size)).trans d25))
  have HR6 : Hid (Rd w6 (some ⟨b1, off1, none⟩) xs.length xs) := (HR4.out.drew.later hbel5).later hbel6
  have hB6 : Below w.heap.size w w6 := next (next hB4.drew hbel5) hbel6
  clear HR4 hb4 hB4 hrd5 hbel5 hbel6 d15 d25 d14 d24 d16 d26
  go_wp2
  go_ret
  exact ⟨rfl, hB6⟩

set_option maxHeartbeats 1000000 in
theorem core6_three (b off cap0 : Nat) (xs ys1 : List ByteArray) (s1 bundle chk : ByteArray) (cmd : List ByteArray) (w : World) (h : Rd w (some ⟨b, off, none⟩) xs.length xs) (hn : xs.length ≤ 65536) (h4 : xs.length = 3)
    (hs1 : s1 = xs.getD 1 ByteArray.empty)
    (hy1 : ys1 = encL s1 ⟨#[]⟩ (xs.drop 2))
    (hr1 : true = decide (ys1 = xs)) (hx : xs = encL bundle chk cmd) (hcmd : cmd ≠ []) (hpos : 0 < cmd.length) (hcl : cmd.length ≤ 100000) :
    Calls Trym.prog 6 #[.slice (some ⟨b, off, none⟩) xs.length cap0] w fun e w' => e = .returned (.bool true) ∧ Below w.heap.size w w' := by
  have HB := bytes20 (cap := cap0) h
  have HS := size21 (cap := cap0) h
  have HC := clone22 (cap := cap0) h hn
  have H1 : Hid (s1 = xs.getD 1 ByteArray.empty) := hs1
  have Y1 : Hid (ys1 = encL s1 ⟨#[]⟩ (xs.drop 2)) := hy1
  have R1 : Hid (true = decide (ys1 = xs)) := hr1
  have X : Hid (xs = encL bundle chk cmd) := hx
  have H3 : Hid (xs.length = 3) := h4
  have h3a : 3 ≤ xs.length := by omega
  have h3b : xs.length ≤ 3 := by omega
  clear h hs1 hy1 hr1 hx h4
  go_enter Trym.func6, Trym.ntmps6
  go_wp2_with fail
  refine HB.mono ?_
  clear HB
  rintro e w1 ⟨⟨r, rfl⟩, hw1⟩
  have hw1 := hw1.symm
  subst hw1
  cases r
  · go_wp2
    go_ret
    exact ⟨rfl, Below.refl _ _⟩
  go_wp2_with fail
  refine HS.mono ?_
  clear HS
  rintro e w1 ⟨⟨z, hz0, hz1, rfl⟩, hw1⟩
  have hw1 := hw1.symm
  subst hw1
  by_cases hz : 1048576 < z
  · go_wp2
    go_ret
    exact ⟨rfl, Below.refl _ _⟩
  go_wp2_with fail
  refine HC.mono ?_
  clear HC
  rintro e w1 ⟨⟨ao1, cap1, rfl, hcap1, hrd1⟩, hbel1⟩
  obtain ⟨b1, off1, rfl, hb1, hcell1⟩ := hrd1.some (by omega)
  have HR1 : Hid (Rd w1 (some ⟨b1, off1, none⟩) xs.length xs) := hrd1
  have c1 : w1.cell? ⟨b1, off1 + 1, none⟩ = some (.string s1) := by rw [H1.out]; exact hcell1 1 (by omega)
  clear hrd1 hcell1
  go_wp2_with fail
  refine (zz23_is X.out hcmd hcap1 HR1.out).mono ?_
  rintro e w2 ⟨⟨ao2, cap2, rfl, hcap2, hrd2⟩, hbel2⟩
  have HR2 : Hid (Rd w2 ao2 cmd.length cmd) := hrd2
  have HR1' : Hid (Rd w2 (some ⟨b1, off1, none⟩) xs.length xs) := HR1.out.later hbel2
  have d1 : w2.cell? ⟨b1, off1 + 1, none⟩ = some (.string s1) := (hbel2.cell (by exact hb1)).trans c1
  have hb2 : b1 < w2.heap.size := Nat.lt_of_lt_of_le hb1 hbel2.size
  have hB2 : Below w.heap.size w w2 := hbel1.trans (hbel2.mono hbel1.size)
  clear c1 HR1 hrd2 hb1 hbel1 hbel2
  have g3 : (3 : Int) ≤ (xs.length : Int) := by omega
  have g1 : (1 : Int) < (xs.length : Int) := by omega
  have g2 : (2 : Int) < (xs.length : Int) := by omega
  have g2' : (2 : Int) ≤ (xs.length : Int) := by omega
  have g5 : (xs.length : Int) ≤ (cap1 : Int) := by omega
  have g6 : (2 : Int) ≤ (cap1 : Int) := by omega
  have g7 : (3 : Int) ≤ (cap1 : Int) := by omega
  have g8 : ¬ cap1 = 2 := by omega
  have ly1 : ys1.length ≤ 1000000 := by rw [Y1.out]; exact encL_len (by simp; omega)
  go_wp2_with fail
  go_region_held3 (fun w' => w'.cell? ⟨b1, off1 + 1, none⟩ = some (.string s1)) (go_keep) (first
    | (go_at_call 25; refine (enc25_is Y1.out ?_ ?_ (HR1'.out.drop 2).drew).mono ?_; omega; omega; rintro e w3 ⟨⟨ao3, cap3, rfl, hcap3, hrd3⟩, hbel3⟩; have d13 : w3.cell? ⟨b1, off1 + 1, none⟩ = some (.string s1) := (hbel3.cell (by exact hb2)).trans d1)
    | (go_at_call 24; refine (eq24_is true R1.out ?_ hrd3 (HR1'.out.drew.later hbel3)).mono ?_; omega; rintro e w4 ⟨rfl, hbel4⟩; have d14 : w4.cell? ⟨b1, off1 + 1, none⟩ = some (.string s1) := (hbel4.cell (by exact Nat.lt_of_lt_of_le hb2 hbel3.size)).trans d13))
  have hb4 : b1 < w4.heap.size := Nat.lt_of_lt_of_le (Nat.lt_of_lt_of_le hb2 hbel3.size) hbel4.size
  have HR4 : Hid (Rd w4 (some ⟨b1, off1, none⟩) xs.length xs) := (HR1'.out.drew.later hbel3).later hbel4
  have HC4 : Hid (Rd w4 ao2 cmd.length cmd) := (HR2.out.drew.later hbel3).later hbel4
  have hB4 : Below w.heap.size w w4 := next (next hB2.drew hbel3) hbel4
  clear HR2 HR1' d1 hb2 hB2 hrd3 hbel3 hbel4 d13
  have g4 : decide ((4 : Int) ≤ (xs.length : Int)) = false := decide_eq_false (by omega)
  go_wp2_with fail
  go_quiet (fail)
  have HR5 : Hid (Rd (w4.drewN nq) (some ⟨b1, off1, none⟩) xs.length xs) := HR4.out
  have HC5 : Hid (Rd (w4.drewN nq) ao2 cmd.length cmd) := HC4.out
  have hB5 : Below w.heap.size w (w4.drewN nq) := belowN hB4 nq
  go_wp2_with fail
  refine (enc25_is X.out hpos hcl HC5.out).mono ?_
  rintro e w7 ⟨⟨ao7, cap7, rfl, hcap7, hrd7⟩, hbel7⟩
  have HR7 : Hid (Rd w7 ao7 xs.length xs) := hrd7
  have HX7 : Hid (Rd w7 (some ⟨b1, off1, none⟩) xs.length xs) := HR5.out.later hbel7
  clear hrd7 HR5 HC5
  go_wp2_with fail
  refine (eq24_is true (by simp) (by omega) HR7.out HX7.out).mono ?_
  rintro e w8 ⟨rfl, hbel8⟩
  go_wp2
  go_ret
  exact ⟨rfl, next (next hB5 hbel7) hbel8⟩

set_option maxHeartbeats 1000000 in
theorem core6_three_no (b off cap0 : Nat) (xs ys1 : List ByteArray) (s1 : ByteArray) (w : World) (h : Rd w (some ⟨b, off, none⟩) xs.length xs) (hn : xs.length ≤ 65536) (h4 : xs.length = 3)
    (hs1 : s1 = xs.getD 1 ByteArray.empty)
    (hy1 : ys1 = encL s1 ⟨#[]⟩ (xs.drop 2))
    (hr1 : false = decide (ys1 = xs)) (hno : ¬ Named xs) :
    Calls Trym.prog 6 #[.slice (some ⟨b, off, none⟩) xs.length cap0] w fun e w' => e = .returned (.bool true) ∧ Below w.heap.size w w' := by
  have q35 : ∀ (w : World) (a : Option Addr) (n c n' c' : Nat), (binOp .eql 35 (.slice a n c) (.slice none n' c')).run Trym.prog w = .ok (.bool a.isNone) w := fun w a n c n' c' => Lib.run_eql_slice_nil w _ _ a n c n' c' Trym.underlying35
  have HB := bytes20 (cap := cap0) h
  have HS := size21 (cap := cap0) h
  have HC := clone22 (cap := cap0) h hn
  have H1 : Hid (s1 = xs.getD 1 ByteArray.empty) := hs1
  have Y1 : Hid (ys1 = encL s1 ⟨#[]⟩ (xs.drop 2)) := hy1
  have R1 : Hid (false = decide (ys1 = xs)) := hr1
  have X : Hid (¬ Named xs) := hno
  have H3 : Hid (xs.length = 3) := h4
  have h3a : 3 ≤ xs.length := by omega
  have h3b : xs.length ≤ 3 := by omega
  clear h hs1 hy1 hr1 hno h4
  go_enter Trym.func6, Trym.ntmps6
  go_wp2_with fail
  refine HB.mono ?_
  clear HB
  rintro e w1 ⟨⟨r, rfl⟩, hw1⟩
  have hw1 := hw1.symm
  subst hw1
  cases r
  · go_wp2
    go_ret
    exact ⟨rfl, Below.refl _ _⟩
  go_wp2_with fail
  refine HS.mono ?_
  clear HS
  rintro e w1 ⟨⟨z, hz0, hz1, rfl⟩, hw1⟩
  have hw1 := hw1.symm
  subst hw1
  by_cases hz : 1048576 < z
  · go_wp2
    go_ret
    exact ⟨rfl, Below.refl _ _⟩
  go_wp2_with fail
  refine HC.mono ?_
  clear HC
  rintro e w1 ⟨⟨ao1, cap1, rfl, hcap1, hrd1⟩, hbel1⟩
  obtain ⟨b1, off1, rfl, hb1, hcell1⟩ := hrd1.some (by omega)
  have HR1 : Hid (Rd w1 (some ⟨b1, off1, none⟩) xs.length xs) := hrd1
  have c1 : w1.cell? ⟨b1, off1 + 1, none⟩ = some (.string s1) := by rw [H1.out]; exact hcell1 1 (by omega)
  clear hrd1 hcell1
  go_wp2_with fail
  refine (zz23_no HR1.out X.out).mono ?_
  rintro e w2 ⟨rfl, hbel2⟩
  have HR1' : Hid (Rd w2 (some ⟨b1, off1, none⟩) xs.length xs) := HR1.out.later hbel2
  have d1 : w2.cell? ⟨b1, off1 + 1, none⟩ = some (.string s1) := (hbel2.cell (by exact hb1)).trans c1
  have hb2 : b1 < w2.heap.size := Nat.lt_of_lt_of_le hb1 hbel2.size
  have hB2 : Below w.heap.size w w2 := hbel1.trans (hbel2.mono hbel1.size)
  clear c1 HR1 hb1 hbel1 hbel2
  have g3 : (3 : Int) ≤ (xs.length : Int) := by omega
  have g1 : (1 : Int) < (xs.length : Int) := by omega
  have g2 : (2 : Int) < (xs.length : Int) := by omega
  have g2' : (2 : Int) ≤ (xs.length : Int) := by omega
  have g5 : (xs.length : Int) ≤ (cap1 : Int) := by omega
  have g6 : (2 : Int) ≤ (cap1 : Int) := by omega
  have g7 : (3 : Int) ≤ (cap1 : Int) := by omega
  have g8 : ¬ cap1 = 2 := by omega
  have ly1 : ys1.length ≤ 1000000 := by rw [Y1.out]; exact encL_len (by simp; omega)
  go_wp2_with fail
  go_region_held3 (fun w' => w'.cell? ⟨b1, off1 + 1, none⟩ = some (.string s1)) (go_keep) (first
    | (go_at_call 25; refine (enc25_is Y1.out ?_ ?_ (HR1'.out.drop 2).drew).mono ?_; omega; omega; rintro e w3 ⟨⟨ao3, cap3, rfl, hcap3, hrd3⟩, hbel3⟩; have d13 : w3.cell? ⟨b1, off1 + 1, none⟩ = some (.string s1) := (hbel3.cell (by exact hb2)).trans d1)
    | (go_at_call 24; refine (eq24_is false R1.out ?_ hrd3 (HR1'.out.drew.later hbel3)).mono ?_; omega; rintro e w4 ⟨rfl, hbel4⟩; have d14 : w4.cell? ⟨b1, off1 + 1, none⟩ = some (.string s1) := (hbel4.cell (by exact Nat.lt_of_lt_of_le hb2 hbel3.size)).trans d13))
  have hb4 : b1 < w4.heap.size := Nat.lt_of_lt_of_le (Nat.lt_of_lt_of_le hb2 hbel3.size) hbel4.size
  have HR4 : Hid (Rd w4 (some ⟨b1, off1, none⟩) xs.length xs) := (HR1'.out.drew.later hbel3).later hbel4
  have hB4 : Below w.heap.size w w4 := next (next hB2.drew hbel3) hbel4
  clear HR1' d1 hb2 hB2 hrd3 hbel3 hbel4 d13
  have g4 : decide ((4 : Int) ≤ (xs.length : Int)) = false := decide_eq_false (by omega)
  go_wp2_with fail
  go_quiet (fail)
  have hB5 : Below w.heap.size w (w4.drewN nq) := belowN hB4 nq
  go_wp2
  go_ret
  exact ⟨rfl, hB5⟩

set_option maxHeartbeats 1000000 in
theorem core6_short (ao : Option Addr) (cap0 : Nat) (xs : List ByteArray) (w : World) (h : Rd w ao xs.length xs) (h3 : xs.length < 3) (hno : ¬ Named xs) :
    Calls Trym.prog 6 #[.slice ao xs.length cap0] w fun e w' => e = .returned (.bool true) ∧ Below w.heap.size w w' := by
  have q35 : ∀ (w : World) (a : Option Addr) (n c n' c' : Nat), (binOp .eql 35 (.slice a n c) (.slice none n' c')).run Trym.prog w = .ok (.bool a.isNone) w := fun w a n c n' c' => Lib.run_eql_slice_nil w _ _ a n c n' c' Trym.underlying35
  have hn : xs.length ≤ 65536 := by omega
  have HB := bytes20 (cap := cap0) h
  have HS := size21 (cap := cap0) h
  have HC := clone22 (cap := cap0) h hn
  have X : Hid (¬ Named xs) := hno
  clear h hno
  go_enter Trym.func6, Trym.ntmps6
  go_wp2_with fail
  refine HB.mono ?_
  clear HB
  rintro e w1 ⟨⟨r, rfl⟩, hw1⟩
  have hw1 := hw1.symm
  subst hw1
  cases r
  · go_wp2
    go_ret
    exact ⟨rfl, Below.refl _ _⟩
  go_wp2_with fail
  refine HS.mono ?_
  clear HS
  rintro e w1 ⟨⟨z, hz0, hz1, rfl⟩, hw1⟩
  have hw1 := hw1.symm
  subst hw1
  by_cases hz : 1048576 < z
  · go_wp2
    go_ret
    exact ⟨rfl, Below.refl _ _⟩
  go_wp2_with fail
  refine HC.mono ?_
  clear HC
  rintro e w1 ⟨⟨ao1, cap1, rfl, hcap1, hrd1⟩, hbel1⟩
  have HR1 : Hid (Rd w1 ao1 xs.length xs) := hrd1
  clear hrd1
  go_wp2_with fail
  refine (zz23_no HR1.out X.out).mono ?_
  rintro e w2 ⟨rfl, hbel2⟩
  have hB2 : Below w.heap.size w w2 := next hbel1 hbel2
  clear hbel1 hbel2 HR1
  have g3 : decide ((3 : Int) ≤ (xs.length : Int)) = false := decide_eq_false (by omega)
  have g4 : decide ((4 : Int) ≤ (xs.length : Int)) = false := decide_eq_false (by omega)
  go_wp2_with fail
  go_quiet (fail)
  go_wp2_with fail
  go_quiet (fail)
  go_wp2
  go_ret
  exact ⟨rfl, belowN hB2 _⟩

end Go.Proofs.Qxb6600665aMods
