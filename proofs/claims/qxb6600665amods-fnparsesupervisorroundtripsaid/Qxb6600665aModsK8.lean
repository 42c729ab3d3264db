/-
  Contract of runscB1EncodeSupervisor (29). By an AI agent.
-/
import Derived.Test.Qxb6600665aModsL1
namespace Go.Proofs.Qxb6600665aMods
open Go.RowKit

def detB : ByteArray := ⟨#[100, 101, 116, 97, 99, 104, 101, 100]⟩

/-- What EncodeSupervisor makes. -/
def encS (p : Bool) (bundle chk : ByteArray) (xs : List ByteArray) : List ByteArray := if p then detB :: encL bundle chk xs else encL bundle chk xs

set_option maxHeartbeats 400000 in
theorem encS29_no (ao : Option Addr) (n cap : Nat) (bundle chk : ByteArray) (xs : List ByteArray) (w : World) (h : Rd w ao n xs) (h0 : 0 < n) (hn : n ≤ 100000) :
    Calls Trym.prog 29 #[.bool false, .string bundle, .string chk, .slice ao n cap] w fun e w' => Gives w' e (encL bundle chk xs) ∧ Below w.heap.size w w' := by
  have HE := enc25 (bundle := bundle) (chk := chk) (cap := cap) h h0 hn
  clear h
  go_enter Trym.func29, Trym.ntmps29
  go_wp2_with fail
  refine HE.mono ?_
  clear HE
  rintro e w1 ⟨⟨ao1, cap1, rfl, hcap1, hrd1⟩, hbel1⟩
  have HR : Hid (Rd w1 ao1 (encL bundle chk xs).length (encL bundle chk xs)) := hrd1
  clear hrd1
  go_wp2
  go_ret
  exact ⟨⟨_, _, rfl, hcap1, HR.out⟩, hbel1⟩

set_option maxHeartbeats 400000 in
theorem encS29_yes (ao : Option Addr) (n cap : Nat) (bundle chk : ByteArray) (xs ys : List ByteArray) (w : World) (h : Rd w ao n xs) (h0 : 0 < n) (hn : n ≤ 100000) (hy : ys = encL bundle chk xs) (hpos : 0 < ys.length) (hle : ys.length ≤ 200000) :
    Calls Trym.prog 29 #[.bool true, .string bundle, .string chk, .slice ao n cap] w fun e w' => Gives w' e (detB :: ys) ∧ Below w.heap.size w w' := by
  have HE := enc25_is (cap := cap) hy h0 hn h
  obtain ⟨i0, hi, hz0, hz1, hz2⟩ := info_parts Trym.info9
  clear h hy
  go_enter Trym.func29, Trym.ntmps29
  go_wp2_with fail
  refine HE.mono ?_
  clear HE
  rintro e w1 ⟨⟨ao1, cap1, rfl, hcap1, hrd1⟩, hbel1⟩
  obtain ⟨b, off, rfl, hb, hc⟩ := hrd1.some hpos
  have HC : Hid (∀ j, j < ys.length → w1.cell? ⟨b, off + j, none⟩ = some (.string (ys.getD j ByteArray.empty))) := hc
  have hB1 : Hid (Below w.heap.size w w1) := hbel1
  clear hrd1 hc hbel1
  go_wp2_with (at_make; refine wpList_make_own _ rfl _ _ 35 rfl w1.heap.size 9 i0 (.string ⟨#[]⟩) 1 Trym.underlying35 hi hz0 hz1 _ _ _ (ys.length + 1) rfl rfl ?b1 ?b2 ?b3 (Nat.le_refl _) ?_)
  case b1 => omega
  case b2 => rw [hz2]; omega
  case b3 => unfold maxLen; omega
  intro w2 hown hgrow
  have hB0 : Built w1 w2 0 (ys.length + 1) [] := Built.start hown hgrow
  clear hown hgrow
  go_wp2_with (at_builtin; go_must (refine wpList_append_fits _ rfl (.tmp 23) (.tmp 24) 35 rfl w1.heap.size 9 i0 1 Trym.underlying35 hi hz1 w1.heap.size 0 (ys.length + 1) _ rfl (hB0.own.alloc _) ⟨_, 0, none⟩ 1 1 [.string ⟨#[100, 101, 116, 97, 99, 104, 101, 100]⟩] rfl rfl (cell_one_new _ _ _) (one_str _) (by omega) ?_))
  intro w3 hown hgrow
  have hB2 : Built w1 w3 1 (ys.length + 1) [detB] := hB0.step hown hgrow
  clear hown hgrow hB0
  go_wp2_with fail
  go_loopw [10, 11] (fun v i wr => ∃ (k : Nat), k ≤ ys.length ∧ i = .int .i64 k ∧ v = .slice (some ⟨w1.heap.size, 0, none⟩) (1 + k) (ys.length + 1) ∧ Built w1 wr (1 + k) (ys.length + 1) (detB :: ys.take k)) (fun _ i _ => ys.length - (intOf i).toNat)
  case atStart => exact ⟨0, Nat.zero_le _, rfl, rfl, hB2⟩
  case round =>
    obtain ⟨k, hk, rfl, rfl, hB⟩ := hrel
    clear hB2
    by_cases hlt : k < ys.length
    · obtain ⟨s, hs⟩ : ∃ s, s = ys.getD k ByteArray.empty := ⟨_, rfl⟩
      have c1 : wr.cell? ⟨b, off + k, none⟩ = some (.string s) := (hB.below.cell (by exact hb)).trans (by rw [hs]; exact HC.out k hlt)
      have HS : Hid (s = ys.getD k ByteArray.empty) := hs
      clear hs
      go_wp2_with (at_builtin; go_must (refine wpList_append_fits _ rfl (.tmp 32) (.tmp 37) 35 rfl w1.heap.size 9 i0 1 Trym.underlying35 hi hz1 w1.heap.size (1 + k) (ys.length + 1) _ rfl (hB.own.alloc _) ⟨_, 0, none⟩ 1 1 [.string s] rfl rfl (cell_one_new _ _ _) (one_str _) (by omega) ?_))
      intro w4 hown hgrow
      have hB' : Built w1 w4 (1 + k + 1) (ys.length + 1) (detB :: ys.take (k + 1)) := (hB.step (s := s) (by simpa using hown) hgrow).take_snoc (p := [detB]) hlt HS.out
      clear hown hgrow hB
      go_wp2
      go_roundw
      case rel => exact ⟨k + 1, by omega, by go_num, rfl, hB'⟩
      case measure => simp [intOf]; omega
    · have HK : Hid (k = ys.length) := by show k = ys.length; omega
      go_wp2
      go_ret
      refine ⟨?_, next hB1.out hB.below⟩
      have := hB.gives
      rw [HK.out, List.take_of_length_le (Nat.le_refl _)] at this
      rw [HK.out]
      exact this

theorem encS29_is {p : Bool} {ao : Option Addr} {n cap : Nat} {bundle chk : ByteArray} {xs ys : List ByteArray} {w : World} (hy : ys = encS p bundle chk xs) (h0 : 0 < n) (hn : n ≤ 100000) (h : Rd w ao n xs) :
    Calls Trym.prog 29 #[.bool p, .string bundle, .string chk, .slice ao n cap] w fun e w' => Gives w' e ys ∧ Below w.heap.size w w' := by
  subst hy
  cases p
  · exact encS29_no ao n cap bundle chk xs w h h0 hn
  · have hl := h.len
    have : (encL bundle chk xs).length = xs.length + 2 ∨ (encL bundle chk xs).length = xs.length + 3 := by
      unfold encL; split <;> simp
    exact encS29_yes ao n cap bundle chk xs _ w h h0 hn rfl (by omega) (by omega)

end Go.Proofs.Qxb6600665aMods
