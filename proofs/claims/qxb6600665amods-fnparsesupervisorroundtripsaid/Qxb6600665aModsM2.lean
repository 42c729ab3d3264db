/-
  FnParseSupervisorRoundTrip (9): the walk. By an AI agent.
-/
import Derived.Test.Qxb6600665aModsK10
import Derived.Test.Qxb6600665aModsK7
namespace Go.Proofs.Qxb6600665aMods
open Go.RowKit

theorem sandbox_ne_det' : sandboxB ≠ detB := by
  intro h
  have := congrArg ByteArray.toList h
  rw [sandbox_list, det_list] at this
  exact absurd this (by decide)
theorem check_ne_det' : checkB ≠ detB := by
  intro h
  have := congrArg ByteArray.toList h
  rw [check_list, det_list] at this
  exact absurd this (by decide)

theorem sparses_of {p : Bool} {s t : ByteArray} {xs ys : List ByteArray} (hy : ys = encS p s t xs) (hc : xs ≠ []) : SParses ys p true s t xs := by
  subst hy
  cases p
  · refine .inr ⟨rfl, fun zs => ?_, .inl ⟨rfl, hc, rfl⟩⟩
    show encL s t xs ≠ _
    unfold encL
    split
    · intro h; exact sandbox_ne_det' (List.cons.inj h).1
    · intro h; exact check_ne_det' (List.cons.inj h).1
  · exact .inl ⟨rfl, _, rfl, .inl ⟨rfl, hc, rfl⟩⟩

set_option maxHeartbeats 400000 in
theorem early9 (p : Bool) (s t : ByteArray) (ao : Option Addr) (n cap : Nat) (xs : List ByteArray) (w : World) (h : Rd w ao n xs)
    (hc : 65536 < (n : Int) ∨ (n : Int) ≤ 65536 ∧ 1048576 < (s.size : Int) ∨ (n : Int) ≤ 65536 ∧ (s.size : Int) ≤ 1048576 ∧ 1048576 < (t.size : Int)) :
    Calls Trym.prog 9 #[.bool p, .string s, .string t, .slice ao n cap] w fun e w' => e = .returned (.bool true) ∧ Below w.heap.size w w' := by
  have HB := bytes30 (p := p) (s := s) (t := t) (cap := cap) h
  clear h
  rcases hc with hc | ⟨hc1, hc⟩ | ⟨hc1, hc2, hc⟩
  all_goals
    go_enter Trym.func9, Trym.ntmps9
    go_wp2_with fail
    refine HB.mono ?_
    clear HB
    rintro e w1 ⟨⟨r, rfl⟩, hw1⟩
    have hw1 := hw1.symm
    subst hw1
    cases r
    all_goals
      go_wp2
      go_ret
      exact ⟨rfl, Below.refl _ _⟩

set_option maxHeartbeats 400000 in
theorem empty9 (p : Bool) (s t : ByteArray) (ao : Option Addr) (cap : Nat) (xs : List ByteArray) (w : World) (h : Rd w ao 0 xs) (hs : (s.size : Int) ≤ 1048576) (ht : (t.size : Int) ≤ 1048576) :
    Calls Trym.prog 9 #[.bool p, .string s, .string t, .slice ao 0 cap] w fun e w' => e = .returned (.bool true) ∧ Below w.heap.size w w' := by
  have HB := bytes30 (p := p) (s := s) (t := t) (cap := cap) h
  have HS := size21 (cap := cap) h
  clear h
  go_enter Trym.func9, Trym.ntmps9
  go_wp2_with fail
  refine HB.mono ?_
  clear HB
  rintro e w1 ⟨⟨r, rfl⟩, hw1⟩
  have hw1 := hw1.symm
  subst hw1
  cases r
  · go_wp2
    go_ret
    exact ⟨rfl, Below.refl _ _⟩
  go_wp2_with fail
  refine HS.mono ?_
  clear HS
  rintro e w1 ⟨⟨z, hz0, hz1, rfl⟩, hw1⟩
  have hw1 := hw1.symm
  subst hw1
  by_cases hz : 1048576 < (s.size : Int) + (t.size : Int) + z
  all_goals
    go_wp2
    go_ret
    exact ⟨rfl, Below.refl _ _⟩

set_option maxHeartbeats 1000000 in
theorem core9 (p : Bool) (s t : ByteArray) (ao : Option Addr) (cap : Nat) (xs ys : List ByteArray) (w : World) (h : Rd w ao xs.length xs) (hne : xs ≠ []) (hpos : 0 < xs.length) (hn : xs.length ≤ 65536) (hs : (s.size : Int) ≤ 1048576) (ht : (t.size : Int) ≤ 1048576) (hy : ys = encS p s t xs) :
    Calls Trym.prog 9 #[.bool p, .string s, .string t, .slice ao xs.length cap] w fun e w' => e = .returned (.bool true) ∧ Below w.heap.size w w' := by
  have HB := bytes30 (p := p) (s := s) (t := t) (cap := cap) h
  have HS := size21 (cap := cap) h
  have HC := clone22 (cap := cap) h hn
  have Y : Hid (ys = encS p s t xs) := hy
  have N : Hid (xs ≠ []) := hne
  clear h hy hne
  go_enter Trym.func9, Trym.ntmps9
  go_wp2_with fail
  refine HB.mono ?_
  clear HB
  rintro e w1 ⟨⟨r, rfl⟩, hw1⟩
  have hw1 := hw1.symm
  subst hw1
  cases r
  · go_wp2
    go_ret
    exact ⟨rfl, Below.refl _ _⟩
  go_wp2_with fail
  refine HS.mono ?_
  clear HS
  rintro e w1 ⟨⟨z, hz0, hz1, rfl⟩, hw1⟩
  have hw1 := hw1.symm
  subst hw1
  by_cases hz : 1048576 < (s.size : Int) + (t.size : Int) + z
  · go_wp2
    go_ret
    exact ⟨rfl, Below.refl _ _⟩
  go_wp2_with fail
  refine HC.mono ?_
  clear HC
  rintro e w1 ⟨⟨ao1, cap1, rfl, hcap1, hrd1⟩, hbel1⟩
  have HR1 : Hid (Rd w1 ao1 xs.length xs) := hrd1
  clear hrd1
  go_wp2_with fail
  refine (encS29_is Y.out hpos (by omega) HR1.out).mono ?_
  rintro e w2 ⟨⟨ao2, cap2, rfl, hcap2, hrd2⟩, hbel2⟩
  have HR2 : Hid (Rd w2 ao2 ys.length ys) := hrd2
  have HX2 : Hid (Rd w2 ao1 xs.length xs) := HR1.out.later hbel2
  have hB2 : Below w.heap.size w w2 := next hbel1 hbel2
  clear hrd2 HR1 hbel1 hbel2
  go_wp2_with fail
  refine (zz28 (sparses_of Y.out N.out) hcap2 HR2.out).mono ?_
  rintro e w3 ⟨⟨ao3, cap3, rfl, hrd3⟩, hbel3⟩
  have HR3 : Hid (Rd w3 ao3 xs.length xs) := hrd3.2.1
  have HX3 : Hid (Rd w3 ao1 xs.length xs) := HX2.out.later hbel3
  have hB3 : Below w.heap.size w w3 := next hB2 hbel3
  clear hrd3 HR2 HX2 hB2 hbel3
  go_wp2_with fail
  refine (eq24_is true (by simp) (by omega) HR3.out HX3.out).mono ?_
  rintro e w4 ⟨rfl, hbel4⟩
  go_wp2
  go_ret
  exact ⟨rfl, next hB3 hbel4⟩

theorem walk9 {p : Bool} {s t : ByteArray} {ao : Option Addr} {n cap : Nat} {xs : List ByteArray} {w : World} (h : Rd w ao n xs) :
    Calls Trym.prog 9 #[.bool p, .string s, .string t, .slice ao n cap] w fun e w' => e = .returned (.bool true) ∧ Below w.heap.size w w' := by
  by_cases hc : 65536 < (n : Int) ∨ (n : Int) ≤ 65536 ∧ 1048576 < (s.size : Int) ∨ (n : Int) ≤ 65536 ∧ (s.size : Int) ≤ 1048576 ∧ 1048576 < (t.size : Int)
  · exact early9 p s t ao n cap xs w h hc
  by_cases h0 : n = 0
  · subst h0
    exact empty9 p s t ao cap xs w h (by omega) (by omega)
  obtain rfl := h.len
  exact core9 p s t ao cap xs _ w h (by rintro rfl; simp at h0) (by omega) (by omega) (by omega) (by omega) rfl

end Go.Proofs.Qxb6600665aMods
