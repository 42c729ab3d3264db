/-
  Contract of runscB1Encode (25). By an AI agent.
-/
import Derived.Test.Qxb6600665aModsK3
namespace Go.Proofs.Qxb6600665aMods
open Go.RowKit

def sandboxB : ByteArray := ⟨#[115, 97, 110, 100, 98, 111, 120]⟩
def checkB : ByteArray := ⟨#[99, 104, 101, 99, 107, 112, 111, 105, 110, 116]⟩

/-- A made slice that owns the strings xs, of room c. -/
structure Built (w wr : World) (m c : Nat) (xs : List ByteArray) : Prop where
  own : wr.ownsRow w.heap.size 9 1 (.slice (some ⟨w.heap.size, 0, none⟩) m c) m (xs.map Value.string)
  below : Below w.heap.size w wr

theorem Built.start {w w1 : World} {c : Nat} (h : w1.ownsRow w.heap.size 9 1 (.slice (some ⟨w.heap.size, 0, none⟩) 0 c) 0 []) (hg : w.grownBy w1 none) : Built w w1 0 c [] :=
  ⟨h, (Below.refl _ _).grown hg (Nat.le_refl _) (fun k e => by cases e)⟩

theorem Built.step {w wr w2 : World} {m c : Nat} {xs : List ByteArray} {s : ByteArray} {o : Obj} (h : Built w wr m c xs)
    (h2 : w2.ownsRow w.heap.size 9 1 (.slice (some ⟨w.heap.size, 0, none⟩) (m + 1) c) (m + 1) (xs.map Value.string ++ [Value.string s])) (hg : (wr.alloc o).grownBy w2 (some w.heap.size)) : Built w w2 (m + 1) c (xs ++ [s]) :=
  ⟨by simpa using h2, (h.below.alloc h.below.size o).grown hg (by have := h.below.size; simp; omega) (fun k e => by cases e; exact Nat.le_refl _)⟩

theorem Built.gives {w wr : World} {m c : Nat} {xs : List ByteArray} (h : Built w wr m c xs) : Gives wr (.returned (.slice (some ⟨w.heap.size, 0, none⟩) m c)) xs := gives_of_own h.own

theorem Built.take_snoc {w wr : World} {m c k : Nat} {p xs : List ByteArray} {s : ByteArray} (h : Built w wr m c (p ++ xs.take k ++ [s])) (hk : k < xs.length) (hs : s = xs.getD k ByteArray.empty) : Built w wr m c (p ++ xs.take (k + 1)) := by
  have e : xs.take (k + 1) = xs.take k ++ [s] := by
    rw [List.take_succ_eq_append_getElem hk, hs]
    simp [List.getD, hk]
  rw [e, ← List.append_assoc]
  exact h

theorem one_str (s : ByteArray) : ∀ u ∈ [Value.string s], u.oneCell' = true := by
  intro u hu; simp at hu; subst hu; rfl

set_option maxHeartbeats 400000 in
theorem enc25_plain (b off n cap : Nat) (bundle : ByteArray) (xs : List ByteArray) (w : World) (hn : n ≤ 100000) (hl : xs.length = n) (hb : b < w.heap.size)
    (hc : ∀ j, j < n → w.cell? ⟨b, off + j, none⟩ = some (.string (xs.getD j ByteArray.empty))) :
    Calls Trym.prog 25 #[.string bundle, .string ⟨#[]⟩, .slice (some ⟨b, off, none⟩) n cap] w fun e w' => Gives w' e (sandboxB :: bundle :: xs) ∧ Below w.heap.size w w' := by
  obtain ⟨i0, hi, hz0, hz1, hz2⟩ := info_parts Trym.info9
  have HL : Hid (xs.length = n) := hl
  clear hl
  go_enter Trym.func25, Trym.ntmps25
  go_wp2_with (at_make; refine wpList_make_own _ rfl _ _ 35 rfl w.heap.size 9 i0 (.string ⟨#[]⟩) 1 Trym.underlying35 hi hz0 hz1 _ _ _ (n + 3) rfl rfl ?b1 ?b2 ?b3 (Nat.le_refl _) ?_)
  case b1 => omega
  case b2 => rw [hz2]; omega
  case b3 => unfold maxLen; omega
  intro w1 hown hgrow
  have hB0 : Built w w1 0 (n + 3) [] := Built.start hown hgrow
  clear hown hgrow
  go_wp2_with (at_builtin; go_must (refine wpList_append_fits _ rfl (.tmp 15) (.tmp 16) 35 rfl w.heap.size 9 i0 1 Trym.underlying35 hi hz1 w.heap.size 0 (n + 3) _ rfl (hB0.own.alloc _) ⟨_, 0, none⟩ 1 1 [.string ⟨#[115, 97, 110, 100, 98, 111, 120]⟩] rfl rfl (cell_one_new _ _ _) (one_str _) (by omega) ?_))
  intro w2 hown hgrow
  have hB1 : Built w w2 1 (n + 3) [sandboxB] := hB0.step hown hgrow
  clear hown hgrow hB0
  go_wp2_with (at_builtin; go_must (refine wpList_append_fits _ rfl (.tmp 18) (.tmp 20) 35 rfl w.heap.size 9 i0 1 Trym.underlying35 hi hz1 w.heap.size 1 (n + 3) _ rfl (hB1.own.alloc _) ⟨_, 0, none⟩ 1 1 [.string bundle] rfl rfl (cell_one_new _ _ _) (one_str _) (by omega) ?_))
  intro w3 hown hgrow
  have hB2 : Built w w3 2 (n + 3) [sandboxB, bundle] := hB1.step hown hgrow
  clear hown hgrow hB1
  go_wp2_with fail
  go_loopw [7, 8] (fun v i wr => ∃ (k : Nat), k ≤ n ∧ i = .int .i64 k ∧ v = .slice (some ⟨w.heap.size, 0, none⟩) (2 + k) (n + 3) ∧ Built w wr (2 + k) (n + 3) (sandboxB :: bundle :: xs.take k)) (fun _ i _ => n - (intOf i).toNat)
  case atStart => exact ⟨0, Nat.zero_le _, rfl, rfl, hB2⟩
  case round =>
    obtain ⟨k, hk, rfl, rfl, hB⟩ := hrel
    clear hB2
    by_cases hlt : k < n
    · obtain ⟨s, hs⟩ : ∃ s, s = xs.getD k ByteArray.empty := ⟨_, rfl⟩
      have c1 : wr.cell? ⟨b, off + k, none⟩ = some (.string s) := (hB.below.cell (by exact hb)).trans (by rw [hs]; exact hc k hlt)
      have HS : Hid (s = xs.getD k ByteArray.empty) := hs
      clear hs hc
      go_wp2_with (at_builtin; go_must (refine wpList_append_fits _ rfl (.tmp 39) (.tmp 44) 35 rfl w.heap.size 9 i0 1 Trym.underlying35 hi hz1 w.heap.size (2 + k) (n + 3) _ rfl (hB.own.alloc _) ⟨_, 0, none⟩ 1 1 [.string s] rfl rfl (cell_one_new _ _ _) (one_str _) (by omega) ?_))
      intro w4 hown hgrow
      have hB' : Built w w4 (2 + k + 1) (n + 3) (sandboxB :: bundle :: xs.take (k + 1)) := (hB.step (s := s) (by simpa using hown) hgrow).take_snoc (p := [sandboxB, bundle]) (by rw [HL.out]; exact hlt) HS.out
      clear hown hgrow hB
      go_wp2
      go_roundw
      case rel => exact ⟨k + 1, by omega, by go_num, rfl, hB'⟩
      case measure => simp [intOf]; omega
    · obtain rfl : k = n := by omega
      clear hc
      go_wp2
      go_ret
      refine ⟨?_, hB.below⟩
      have := hB.gives
      rw [List.take_of_length_le (by rw [HL.out]; exact Nat.le_refl _)] at this
      exact this

set_option maxHeartbeats 400000 in
theorem enc25_check (b off n cap : Nat) (bundle chk : ByteArray) (xs : List ByteArray) (w : World) (hne : chk.toList.isEmpty = false) (hn : n ≤ 100000) (hl : xs.length = n) (hb : b < w.heap.size)
    (hc : ∀ j, j < n → w.cell? ⟨b, off + j, none⟩ = some (.string (xs.getD j ByteArray.empty))) :
    Calls Trym.prog 25 #[.string bundle, .string chk, .slice (some ⟨b, off, none⟩) n cap] w fun e w' => Gives w' e (checkB :: bundle :: chk :: xs) ∧ Below w.heap.size w w' := by
  obtain ⟨i0, hi, hz0, hz1, hz2⟩ := info_parts Trym.info9
  have HL : Hid (xs.length = n) := hl
  clear hl
  go_enter Trym.func25, Trym.ntmps25
  go_wp2_with (at_make; refine wpList_make_own _ rfl _ _ 35 rfl w.heap.size 9 i0 (.string ⟨#[]⟩) 1 Trym.underlying35 hi hz0 hz1 _ _ _ (n + 3) rfl rfl ?b1 ?b2 ?b3 (Nat.le_refl _) ?_)
  case b1 => omega
  case b2 => rw [hz2]; omega
  case b3 => unfold maxLen; omega
  intro w1 hown hgrow
  have hB0 : Built w w1 0 (n + 3) [] := Built.start hown hgrow
  clear hown hgrow
  go_wp2_with (at_builtin; go_must (refine wpList_append_fits _ rfl (.tmp 22) (.tmp 23) 35 rfl w.heap.size 9 i0 1 Trym.underlying35 hi hz1 w.heap.size 0 (n + 3) _ rfl (hB0.own.alloc _) ⟨_, 0, none⟩ 1 1 [.string ⟨#[99, 104, 101, 99, 107, 112, 111, 105, 110, 116]⟩] rfl rfl (cell_one_new _ _ _) (one_str _) (by omega) ?_))
  intro w2 hown hgrow
  have hB1 : Built w w2 1 (n + 3) [checkB] := hB0.step hown hgrow
  clear hown hgrow hB0
  go_wp2_with (at_builtin; go_must (refine wpList_append_fits _ rfl (.tmp 25) (.tmp 27) 35 rfl w.heap.size 9 i0 1 Trym.underlying35 hi hz1 w.heap.size 1 (n + 3) _ rfl (hB1.own.alloc _) ⟨_, 0, none⟩ 1 1 [.string bundle] rfl rfl (cell_one_new _ _ _) (one_str _) (by omega) ?_))
  intro w3 hown hgrow
  have hB2' : Built w w3 2 (n + 3) [checkB, bundle] := hB1.step hown hgrow
  clear hown hgrow hB1
  go_wp2_with (at_builtin; go_must (refine wpList_append_fits _ rfl (.tmp 29) (.tmp 31) 35 rfl w.heap.size 9 i0 1 Trym.underlying35 hi hz1 w.heap.size 2 (n + 3) _ rfl (hB2'.own.alloc _) ⟨_, 0, none⟩ 1 1 [.string chk] rfl rfl (cell_one_new _ _ _) (one_str _) (by omega) ?_))
  intro w5 hown hgrow
  have hB2 : Built w w5 3 (n + 3) [checkB, bundle, chk] := hB2'.step hown hgrow
  clear hown hgrow hB2'
  go_wp2_with fail
  go_loopw [7, 8] (fun v i wr => ∃ (k : Nat), k ≤ n ∧ i = .int .i64 k ∧ v = .slice (some ⟨w.heap.size, 0, none⟩) (3 + k) (n + 3) ∧ Built w wr (3 + k) (n + 3) (checkB :: bundle :: chk :: xs.take k)) (fun _ i _ => n - (intOf i).toNat)
  case atStart => exact ⟨0, Nat.zero_le _, rfl, rfl, hB2⟩
  case round =>
    obtain ⟨k, hk, rfl, rfl, hB⟩ := hrel
    clear hB2
    by_cases hlt : k < n
    · obtain ⟨s, hs⟩ : ∃ s, s = xs.getD k ByteArray.empty := ⟨_, rfl⟩
      have c1 : wr.cell? ⟨b, off + k, none⟩ = some (.string s) := (hB.below.cell (by exact hb)).trans (by rw [hs]; exact hc k hlt)
      have HS : Hid (s = xs.getD k ByteArray.empty) := hs
      clear hs hc
      go_wp2_with (at_builtin; go_must (refine wpList_append_fits _ rfl (.tmp 39) (.tmp 44) 35 rfl w.heap.size 9 i0 1 Trym.underlying35 hi hz1 w.heap.size (3 + k) (n + 3) _ rfl (hB.own.alloc _) ⟨_, 0, none⟩ 1 1 [.string s] rfl rfl (cell_one_new _ _ _) (one_str _) (by omega) ?_))
      intro w4 hown hgrow
      have hB' : Built w w4 (3 + k + 1) (n + 3) (checkB :: bundle :: chk :: xs.take (k + 1)) := (hB.step (s := s) (by simpa using hown) hgrow).take_snoc (p := [checkB, bundle, chk]) (by rw [HL.out]; exact hlt) HS.out
      clear hown hgrow hB
      go_wp2
      go_roundw
      case rel => exact ⟨k + 1, by omega, by go_num, rfl, hB'⟩
      case measure => simp [intOf]; omega
    · obtain rfl : k = n := by omega
      clear hc
      go_wp2
      go_ret
      refine ⟨?_, hB.below⟩
      have := hB.gives
      rw [List.take_of_length_le (by rw [HL.out]; exact Nat.le_refl _)] at this
      exact this

end Go.Proofs.Qxb6600665aMods
