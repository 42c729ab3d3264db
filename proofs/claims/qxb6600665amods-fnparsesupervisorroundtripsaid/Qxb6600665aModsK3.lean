/-
  Contract of runscB1CloneStrs (22). By an AI agent.
-/
import Derived.Test.Qxb6600665aModsK2
namespace Go.Proofs.Qxb6600665aMods
open Go.RowKit

theorem made_strs (n : Nat) : (madeCells #[Value.string ⟨#[]⟩] n).toList = (List.replicate n ByteArray.empty).map Value.string := by
  rw [toList_madeCells_one, List.map_replicate]
  rfl

/-- What the copying loop keeps. -/
structure Copied (w wr : World) (n k : Nat) (xs : List ByteArray) : Prop where
  out : ∃ zs : List ByteArray, zs.length = n ∧ wr.ownsRow w.heap.size 9 1 (.slice (some ⟨w.heap.size, 0, none⟩) n n) n (zs.map Value.string) ∧ ∀ j, j < k → zs.getD j ByteArray.empty = xs.getD j ByteArray.empty
  below : Below w.heap.size w wr

theorem Copied.start {w w1 : World} {n : Nat} {xs : List ByteArray} (h : w1.ownsRow w.heap.size 9 1 (.slice (some ⟨w.heap.size, 0, none⟩) n n) n (madeCells #[Value.string ⟨#[]⟩] n).toList) (hg : w.grownBy w1 none) : Copied w w1 n 0 xs := by
  rw [made_strs] at h
  exact ⟨⟨_, by simp, h, fun j hj => by omega⟩, (Below.refl _ _).grown hg (Nat.le_refl _) (fun k e => by cases e)⟩

theorem Copied.old {w wr : World} {n k : Nat} {xs : List ByteArray} (h : Copied w wr n k xs) (hk : k < n) : ∃ z : ByteArray, wr.cell? ⟨w.heap.size, k, none⟩ = some (.string z) := by
  obtain ⟨zs, hl, ho, _⟩ := h.out
  refine ⟨zs.getD k ByteArray.empty, ?_⟩
  rw [ho.cellAt k (by omega)]
  simp [hl, hk]

theorem Copied.free {w wr : World} {n k : Nat} {xs : List ByteArray} (h : Copied w wr n k xs) (j : Nat) : wr.frozen? ⟨w.heap.size, j, none⟩ = false := by
  obtain ⟨zs, hl, ho, _⟩ := h.out
  exact ho.frozenAt j

theorem Copied.step {w wr : World} {n k : Nat} {xs : List ByteArray} {s : ByteArray} (h : Copied w wr n k xs) (hk : k < n) (hs : s = xs.getD k ByteArray.empty) : Copied w (wr.setCell ⟨w.heap.size, k, none⟩ (.string s)) n (k + 1) xs := by
  obtain ⟨zs, hl, ho, ha⟩ := h.out
  refine ⟨⟨zs.set k s, by simpa using hl, ?_, fun j hj => ?_⟩, h.below.setCell (Nat.le_refl _) _⟩
  · have := (ho.stored k (.string s)).1
    rwa [← List.map_set] at this
  · by_cases hjk : j = k
    · subst hjk
      simp [hl, hk, hs]
    · have := ha j (by omega)
      rw [← this]
      simp [show ¬ k = j by omega]

theorem Copied.gives {w wr : World} {n : Nat} {xs : List ByteArray} (h : Copied w wr n n xs) (hx : xs.length = n) : Gives wr (.returned (.slice (some ⟨w.heap.size, 0, none⟩) n n)) xs := by
  obtain ⟨zs, hl, ho, ha⟩ := h.out
  obtain rfl : zs = xs := by
    apply List.ext_getElem (by omega)
    intro i hi hj
    have := ha i (by omega)
    simpa [List.getD, hi, hj] using this
  exact gives_of_own ho

set_option maxHeartbeats 400000 in
theorem clone22_some (b off n cap : Nat) (xs : List ByteArray) (w : World) (hn : n ≤ 65536) (hl : xs.length = n) (hb : b < w.heap.size)
    (hc : ∀ j, j < n → w.cell? ⟨b, off + j, none⟩ = some (.string (xs.getD j ByteArray.empty))) :
    Calls Trym.prog 22 #[.slice (some ⟨b, off, none⟩) n cap] w fun e w' => Gives w' e xs ∧ Below w.heap.size w w' := by
  have q35 : ∀ (w : World) (a : Option Addr) (n c n' c' : Nat), (binOp .eql 35 (.slice a n c) (.slice none n' c')).run Trym.prog w = .ok (.bool a.isNone) w := fun w a n c n' c' => Lib.run_eql_slice_nil w _ _ a n c n' c' Trym.underlying35
  obtain ⟨i0, hi, hz0, hz1, hz2⟩ := info_parts Trym.info9
  have HL : Hid (xs.length = n) := hl
  clear hl
  go_enter Trym.func22, Trym.ntmps22
  go_wp2_with (at_make; refine wpList_make_full _ rfl _ _ 35 rfl w.heap.size 9 i0 (.string ⟨#[]⟩) 1 Trym.underlying35 hi hz0 hz1 _ _ _ _ n rfl rfl rfl rfl ?b2 ?b3 (Nat.le_refl _) ?_)
  case b2 => rw [hz2]; omega
  case b3 => unfold maxLen; omega
  intro w1 hown hgrow
  have hC : Copied w w1 n 0 xs := Copied.start hown hgrow
  clear hown hgrow
  go_wp2_with fail
  go_loopw [4] (fun i wr => ∃ (k : Nat), k ≤ n ∧ i = .int .i64 k ∧ Copied w wr n k xs) (fun i _ => n - (intOf i).toNat)
  case atStart => exact ⟨0, Nat.zero_le _, rfl, hC⟩
  case round =>
    obtain ⟨k, hk, rfl, hcp⟩ := hrel
    clear hC
    by_cases hlt : k < n
    · obtain ⟨s, hs⟩ : ∃ s, s = xs.getD k ByteArray.empty := ⟨_, rfl⟩
      have c1 : wr.cell? ⟨b, off + k, none⟩ = some (.string s) := (hcp.below.cell (by exact hb)).trans (by rw [hs]; exact hc k hlt)
      have HS : Hid (s = xs.getD k ByteArray.empty) := hs
      obtain ⟨z, c2⟩ := hcp.old hlt
      have f2 := hcp.free k
      clear hs hc
      go_wp2
      go_roundw
      case rel => exact ⟨k + 1, by omega, by go_num, hcp.step hlt HS.out⟩
      case measure => simp [intOf]; omega
    · obtain rfl : k = n := by omega
      clear hc
      go_wp2
      go_ret
      exact ⟨hcp.gives HL.out, hcp.below⟩

set_option maxHeartbeats 400000 in
theorem clone22_empty (a : Addr) (cap : Nat) (w : World) :
    Calls Trym.prog 22 #[.slice (some a) 0 cap] w fun e w' => Gives w' e [] ∧ Below w.heap.size w w' := by
  have q35 : ∀ (w : World) (a : Option Addr) (n c n' c' : Nat), (binOp .eql 35 (.slice a n c) (.slice none n' c')).run Trym.prog w = .ok (.bool a.isNone) w := fun w a n c n' c' => Lib.run_eql_slice_nil w _ _ a n c n' c' Trym.underlying35
  obtain ⟨i0, hi, hz0, hz1, hz2⟩ := info_parts Trym.info9
  go_enter Trym.func22, Trym.ntmps22
  go_wp2_with (at_make; refine wpList_make_full _ rfl _ _ 35 rfl w.heap.size 9 i0 (.string ⟨#[]⟩) 1 Trym.underlying35 hi hz0 hz1 _ _ _ _ 0 rfl rfl rfl rfl ?b2 ?b3 (Nat.le_refl _) ?_)
  case b2 => rw [hz2]; omega
  case b3 => unfold maxLen; omega
  intro w1 hown hgrow
  have hC : Copied w w1 0 0 [] := Copied.start hown hgrow
  clear hown hgrow
  go_wp2_with fail
  refine wp_loop_rounds 1 ?_
  rw [rounds_succ]
  go_wp2
  go_ret
  exact ⟨hC.gives rfl, hC.below⟩

theorem clone22 {ao : Option Addr} {n cap : Nat} {xs : List ByteArray} {w : World} (h : Rd w ao n xs) (hn : n ≤ 65536) :
    Calls Trym.prog 22 #[.slice ao n cap] w fun e w' => Gives w' e xs ∧ Below w.heap.size w w' := by
  obtain ⟨hl, h | ⟨b, off, rfl, hb, hc⟩⟩ := h
  · subst h
    obtain rfl := List.eq_nil_of_length_eq_zero hl
    cases ao with
    | none => exact (clone22_nil 0 cap w).mono fun e w' ⟨he, hw⟩ => by subst he; subst hw; exact ⟨⟨none, 0, rfl, Nat.le_refl _, rfl, .inl rfl⟩, Below.refl _ _⟩
    | some a => exact clone22_empty a cap w
  · exact clone22_some b off n cap xs w hn hl hb hc

end Go.Proofs.Qxb6600665aMods
