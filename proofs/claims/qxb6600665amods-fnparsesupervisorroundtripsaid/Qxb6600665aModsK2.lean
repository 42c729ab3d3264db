/-
  Contracts of runscB1StrsEq (24) and runscB1CloneStrs (22). By an AI agent.
-/
import Derived.Test.Qxb6600665aModsK1
import Derived.RegionTactic
namespace Go.Proofs.Qxb6600665aMods
open Go.RowKit

theorem toList_inj {s t : ByteArray} (h : s.toList = t.toList) : s = t := by
  rw [ByteArray.toList_eq, ByteArray.toList_eq] at h
  exact Go.WideShapes.bytes_inj h
theorem same_of_neq {s t : ByteArray} (h : (!s.toList == t.toList) = false) : s = t := toList_inj (by simpa using h)
theorem ne_of_neq {s t : ByteArray} (h : (!s.toList == t.toList) = true) : s ≠ t := by
  rintro rfl; simp at h

/-- The two lists agree at each place below n. -/
def agree (n : Nat) (xs ys : List ByteArray) : Bool := decide (∀ j, j < n → xs.getD j ByteArray.empty = ys.getD j ByteArray.empty)
theorem agree_no {n k : Nat} {xs ys : List ByteArray} {s t : ByteArray} (hk : k < n) (hs : s = xs.getD k ByteArray.empty) (ht : t = ys.getD k ByteArray.empty) (h : s ≠ t) : false = agree n xs ys := by
  symm; unfold agree; rw [decide_eq_false_iff_not]; intro hh; exact h (by rw [hs, ht]; exact hh k hk)
theorem agree_yes {n : Nat} {xs ys : List ByteArray} (h : ∀ j, j < n → xs.getD j ByteArray.empty = ys.getD j ByteArray.empty) : true = agree n xs ys := by
  symm; unfold agree; rw [decide_eq_true_eq]; exact h
theorem agree_of_eq {n : Nat} {xs : List ByteArray} : agree n xs xs = true := by simp [agree]
theorem agree_of_ne {n : Nat} {xs ys : List ByteArray} (h1 : xs.length = n) (h2 : ys.length = n) (h : xs ≠ ys) : agree n xs ys = false := by
  unfold agree; rw [decide_eq_false_iff_not]; intro hh; apply h
  apply List.ext_getElem (by omega)
  intro i hi hj
  have := hh i (by omega)
  simpa [List.getD, hi, hj] using this
theorem ret_bool {a b : Bool} (h : a = b) : Ending.returned (.bool a) = .returned (.bool b) := by rw [h]

set_option maxHeartbeats 400000 in
theorem eq24_some (b1 off1 cap1 b2 off2 cap2 n : Nat) (xs ys : List ByteArray) (w : World) (hn : n ≤ 1000000) (hb1 : b1 < w.heap.size) (hb2 : b2 < w.heap.size)
    (hx : ∀ j, j < n → w.cell? ⟨b1, off1 + j, none⟩ = some (.string (xs.getD j ByteArray.empty)))
    (hy : ∀ j, j < n → w.cell? ⟨b2, off2 + j, none⟩ = some (.string (ys.getD j ByteArray.empty))) :
    Calls Trym.prog 24 #[.slice (some ⟨b1, off1, none⟩) n cap1, .slice (some ⟨b2, off2, none⟩) n cap2] w fun e w' => e = .returned (.bool (agree n xs ys)) ∧ Below w.heap.size w w' := by
  go_enter Trym.func24, Trym.ntmps24
  go_wp2
  go_loopw [5] (fun i wr => ∃ (k : Nat), k ≤ n ∧ i = .int .i64 k ∧ Below w.heap.size w wr ∧ ∀ j, j < k → xs.getD j ByteArray.empty = ys.getD j ByteArray.empty) (fun i _ => n - (intOf i).toNat)
  case atStart => exact ⟨0, Nat.zero_le _, rfl, Below.refl _ _, fun j hj => by omega⟩
  case round =>
    obtain ⟨k, hk, rfl, hbel, hall⟩ := hrel
    have HA : Hid (∀ j, j < k → xs.getD j ByteArray.empty = ys.getD j ByteArray.empty) := hall
    clear hall
    by_cases hlt : k < n
    · obtain ⟨s, hs⟩ : ∃ s, s = xs.getD k ByteArray.empty := ⟨_, rfl⟩
      obtain ⟨t, ht⟩ : ∃ t, t = ys.getD k ByteArray.empty := ⟨_, rfl⟩
      have c1 : wr.cell? ⟨b1, off1 + k, none⟩ = some (.string s) := (hbel.cell (by exact hb1)).trans (by rw [hs]; exact hx k hlt)
      have c2 : wr.cell? ⟨b2, off2 + k, none⟩ = some (.string t) := (hbel.cell (by exact hb2)).trans (by rw [ht]; exact hy k hlt)
      have HS : Hid (s = xs.getD k ByteArray.empty) := hs
      have HT : Hid (t = ys.getD k ByteArray.empty) := ht
      clear hs ht hx hy
      have hki : (k : Int) < (n : Int) := by omega
      go_wp2
      go_region
      all_goals go_wp2
      · have hq : (!s.toList == t.toList) = true := by assumption
        go_ret
        exact ⟨ret_bool (agree_no hlt HS.out HT.out (ne_of_neq hq)), hbel.drew⟩
      · have hq : (!s.toList == t.toList) = false := by assumption
        have HQ : Hid (s = t) := same_of_neq hq
        go_roundw
        case rel =>
          refine ⟨k + 1, by omega, by go_num, hbel.drew, fun j hj => ?_⟩
          by_cases hjk : j < k
          · exact HA.out j hjk
          · obtain rfl : j = k := by omega
            rw [← HS.out, ← HT.out]; exact HQ.out
        case measure => simp [intOf]; omega
    · clear hx hy
      go_wp2
      go_ret
      exact ⟨ret_bool (agree_yes fun j hj => HA.out j (by omega)), hbel⟩

set_option maxHeartbeats 400000 in
theorem eq24_none (a1 : Option Addr) (cap1 : Nat) (a2 : Option Addr) (cap2 : Nat) (w : World) :
    Calls Trym.prog 24 #[.slice a1 0 cap1, .slice a2 0 cap2] w fun e w' => e = .returned (.bool true) ∧ Below w.heap.size w w' := by
  go_enter Trym.func24, Trym.ntmps24
  go_wp2
  refine wp_loop_rounds 1 ?_
  rw [rounds_succ]
  go_wp2
  go_ret
  exact ⟨rfl, Below.refl _ _⟩

set_option maxHeartbeats 400000 in
theorem eq24_differ (a1 : Option Addr) (n1 cap1 : Nat) (a2 : Option Addr) (n2 cap2 : Nat) (w : World) (h : ((n1 : Int) != (n2 : Int)) = true) :
    Calls Trym.prog 24 #[.slice a1 n1 cap1, .slice a2 n2 cap2] w fun e w' => e = .returned (.bool false) ∧ Below w.heap.size w w' := by
  go_enter Trym.func24, Trym.ntmps24
  go_wp2
  go_ret
  exact ⟨rfl, Below.refl _ _⟩

theorem eq24_yes {a1 a2 : Option Addr} {n cap1 cap2 : Nat} {xs : List ByteArray} {w : World} (h1 : Rd w a1 n xs) (h2 : Rd w a2 n xs) (hn : n ≤ 1000000) :
    Calls Trym.prog 24 #[.slice a1 n cap1, .slice a2 n cap2] w fun e w' => e = .returned (.bool true) ∧ Below w.heap.size w w' := by
  obtain ⟨_, h | ⟨b, off, rfl, hb, hc⟩⟩ := h1
  · subst h; exact eq24_none _ _ _ _ _
  · obtain ⟨_, h' | ⟨b', off', rfl, hb', hc'⟩⟩ := h2
    · subst h'; exact eq24_none _ _ _ _ _
    · have := eq24_some b off cap1 b' off' cap2 n xs xs w hn hb hb' hc hc'
      rw [agree_of_eq] at this
      exact this

theorem eq24_no {a1 a2 : Option Addr} {n m cap1 cap2 : Nat} {xs ys : List ByteArray} {w : World} (h1 : Rd w a1 n xs) (h2 : Rd w a2 m ys) (hn : n ≤ 1000000) (hne : xs ≠ ys) :
    Calls Trym.prog 24 #[.slice a1 n cap1, .slice a2 m cap2] w fun e w' => e = .returned (.bool false) ∧ Below w.heap.size w w' := by
  by_cases hnm : n = m
  · subst hnm
    obtain ⟨l1, h | ⟨b, off, rfl, hb, hc⟩⟩ := h1
    · subst h
      exact absurd ((List.eq_nil_of_length_eq_zero l1).trans (List.eq_nil_of_length_eq_zero h2.1).symm) hne
    · obtain ⟨l2, h' | ⟨b', off', rfl, hb', hc'⟩⟩ := h2
      · subst h'
        exact absurd ((List.eq_nil_of_length_eq_zero l1).trans (List.eq_nil_of_length_eq_zero l2).symm) hne
      · have := eq24_some b off cap1 b' off' cap2 n xs ys w hn hb hb' hc hc'
        rw [agree_of_ne l1 l2 hne] at this
        exact this
  · exact eq24_differ a1 n cap1 a2 m cap2 w (by simp; omega)

/-- A reading lasts while nothing below the heap's size turns. -/
theorem Rd.later {w w' : World} {ao : Option Addr} {n : Nat} {xs : List ByteArray} (h : Rd w ao n xs) (hb : Below w.heap.size w w') : Rd w' ao n xs := by
  obtain ⟨h1, h2⟩ := h
  refine ⟨h1, ?_⟩
  rcases h2 with h2 | ⟨b, off, e, hlt, hc⟩
  · exact .inl h2
  · exact .inr ⟨b, off, e, Nat.lt_of_lt_of_le hlt hb.size, fun j hj => (hb.cell (by exact hlt)).trans (hc j hj)⟩

theorem Trym.info9 : (Trym.prog.info? 9).map (fun i => (i.zero, i.size, i.bytes)) = some (some (.string ⟨#[]⟩), 1, 16) := by kernel_rfl

/-- The call returned a slice that reads as xs. -/
def Gives (w' : World) (e : Ending) (xs : List ByteArray) : Prop :=
  ∃ ao cap, e = .returned (.slice ao xs.length cap) ∧ xs.length ≤ cap ∧ Rd w' ao xs.length xs

theorem rd_of_own {w : World} {base g n cap : Nat} {xs : List ByteArray} (h : w.ownsRow base 9 1 (.slice (some ⟨g, 0, none⟩) n cap) n (xs.map Value.string)) : n = xs.length ∧ n ≤ cap ∧ Rd w (some ⟨g, 0, none⟩) n xs := by
  have hl := h.1
  simp at hl
  have hlt := h.lt g rfl
  rcases h.2 with ⟨h', _⟩ | ⟨g', cap', cur, h', _, _, hnc, _⟩
  · simp at h'
  · simp only [Value.slice.injEq, Option.some.injEq, Addr.mk.injEq, and_true, true_and] at h'
    obtain ⟨rfl, rfl⟩ := h'
    refine ⟨hl.symm, hnc, hl, .inr ⟨g, 0, rfl, hlt.2, fun j hj => ?_⟩⟩
    rw [Nat.zero_add, h.cellAt j (by omega)]
    simp [show j < xs.length by omega]

theorem gives_of_own {w : World} {base g n cap : Nat} {xs : List ByteArray} (h : w.ownsRow base 9 1 (.slice (some ⟨g, 0, none⟩) n cap) n (xs.map Value.string)) : Gives w (.returned (.slice (some ⟨g, 0, none⟩) n cap)) xs := by
  obtain ⟨rfl, h2, h3⟩ := rd_of_own h
  exact ⟨_, _, rfl, h2, h3⟩

set_option maxHeartbeats 400000 in
theorem clone22_nil (n cap : Nat) (w : World) :
    Calls Trym.prog 22 #[.slice none n cap] w fun e w' => e = .returned (.slice none 0 0) ∧ w' = w := by
  have q35 : ∀ (w : World) (a : Option Addr) (n c n' c' : Nat), (binOp .eql 35 (.slice a n c) (.slice none n' c')).run Trym.prog w = .ok (.bool a.isNone) w := fun w a n c n' c' => Lib.run_eql_slice_nil w _ _ a n c n' c' Trym.underlying35
  go_enter Trym.func22, Trym.ntmps22
  go_wp2
  go_ret
  exact ⟨rfl, rfl⟩

end Go.Proofs.Qxb6600665aMods
