/-
  parseSupervision (32) by what it decodes; ZZParseSupervision (23). By an AI agent.
-/
import Derived.Test.Qxb6600665aModsK5
import Derived.RegionTactic
import Derived.ChangeAlike
namespace Go.Proofs.Qxb6600665aMods
open Go.RowKit

theorem Rd.drop {w : World} {b off n : Nat} {xs : List ByteArray} (d : Nat) (h : Rd w (some ⟨b, off, none⟩) n xs) : Rd w (some ⟨b, off + d, none⟩) (n - d) (xs.drop d) := by
  obtain ⟨hl, h | ⟨b', off', e, hb, hc⟩⟩ := h
  · exact ⟨by simp [hl], .inl (by omega)⟩
  · cases e
    refine ⟨by simp [hl], .inr ⟨b, off + d, rfl, hb, fun j hj => ?_⟩⟩
    rw [Nat.add_assoc, hc (d + j) (by omega)]
    simp [List.getD]

theorem Rd.some {w : World} {ao : Option Addr} {n : Nat} {xs : List ByteArray} (h : Rd w ao n xs) (h0 : 0 < n) : ∃ b off, ao = some ⟨b, off, none⟩ ∧ b < w.heap.size ∧ ∀ j, j < n → w.cell? ⟨b, off + j, none⟩ = some (.string (xs.getD j ByteArray.empty)) := by
  obtain ⟨hl, h | h⟩ := h
  · omega
  · exact h

theorem Rd.len {w : World} {ao : Option Addr} {n : Nat} {xs : List ByteArray} (h : Rd w ao n xs) : n = xs.length := h.1.symm

/-- The words xs name a supervision and a command. -/
def Named (xs : List ByteArray) : Prop := ∃ b c cmd, cmd ≠ [] ∧ xs = encL b c cmd

/-- The call returned what the supervision names. -/
def ParseGives (w' : World) (e : Ending) (bundle chk : ByteArray) (cmd : List ByteArray) : Prop :=
  ∃ ao cap, e = .returned (.tuple #[.agg #[.string bundle, .string chk], .slice ao cmd.length cap, .bool true]) ∧ cmd.length ≤ cap ∧ Rd w' ao cmd.length cmd

theorem parse32_yes {ao : Option Addr} {n cap : Nat} {bundle chk : ByteArray} {cmd : List ByteArray} {w : World} (h : Rd w ao n (encL bundle chk cmd)) (hc : cmd ≠ []) (hcap : n ≤ cap) :
    Calls Trym.prog 32 #[.slice ao n cap] w fun e w' => ParseGives w' e bundle chk cmd ∧ Below w.heap.size w w' := by
  have hcl : 0 < cmd.length := List.length_pos_iff.2 hc
  unfold encL at h
  by_cases hk : chk = ByteArray.empty
  · subst hk
    rw [if_pos rfl] at h
    have hn := h.len
    simp at hn
    obtain ⟨b, off, rfl, hb, hcell⟩ := h.some (by omega)
    refine (parse32_plain b off n cap bundle w (by omega) hcap hb (hcell 0 (by omega)) (hcell 1 (by omega))).mono fun e w' ⟨he, hbel⟩ => ⟨⟨some ⟨b, off + 2, none⟩, cap - 2, ?_, by omega, ?_⟩, hbel⟩
    · rw [he, show n - 2 = cmd.length by omega]; rfl
    · have := (h.later hbel).drop 2
      rw [show n - 2 = cmd.length by omega] at this
      exact this
  · rw [if_neg hk] at h
    have hn := h.len
    simp at hn
    obtain ⟨b, off, rfl, hb, hcell⟩ := h.some (by omega)
    refine (parse32_check b off n cap bundle chk w (by omega) hcap hb (hcell 0 (by omega)) (hcell 1 (by omega)) (hcell 2 (by omega)) (isEmpty_of_ne hk)).mono fun e w' ⟨he, hbel⟩ => ⟨⟨some ⟨b, off + 3, none⟩, cap - 3, ?_, by omega, ?_⟩, hbel⟩
    · rw [he, show n - 3 = cmd.length by omega]
    · have := (h.later hbel).drop 3
      rw [show n - 3 = cmd.length by omega] at this
      exact this

theorem named_plain {xs : List ByteArray} (hl : 3 ≤ xs.length) (h : xs.getD 0 ByteArray.empty = sandboxB) : Named xs := by
  match xs, hl with
  | x :: y :: z :: r, _ => 
    simp at h
    exact ⟨y, ByteArray.empty, z :: r, by simp, by simp [encL, h]⟩

theorem named_check {xs : List ByteArray} (hl : 4 ≤ xs.length) (h : xs.getD 0 ByteArray.empty = checkB) (h2 : xs.getD 2 ByteArray.empty ≠ ByteArray.empty) : Named xs := by
  match xs, hl with
  | x :: y :: z :: u :: r, _ => 
    simp at h h2
    exact ⟨y, z, u :: r, by simp, by simp [encL, h, h2]⟩

theorem beq_false_of {s t : ByteArray} {l : List UInt8} (hl : t.toList = l) (h : s ≠ t) : (s.toList == l) = false := by
  cases hh : s.toList == l
  · rfl
  · exact absurd (toList_inj (by rw [hl]; simpa using hh)) h

theorem sandbox_list : sandboxB.toList = [115, 97, 110, 100, 98, 111, 120] := by rw [ByteArray.toList_eq]; rfl
theorem check_list : checkB.toList = [99, 104, 101, 99, 107, 112, 111, 105, 110, 116] := by rw [ByteArray.toList_eq]; rfl

theorem parse32_no {ao : Option Addr} {n cap : Nat} {xs : List ByteArray} {w : World} (h : Rd w ao n xs) (hno : ¬ Named xs) :
    Calls Trym.prog 32 #[.slice ao n cap] w fun e w' => e = .returned (.tuple #[.agg #[.string ⟨#[]⟩, .string ⟨#[]⟩], .slice none 0 0, .bool false]) ∧ Below w.heap.size w w' := by
  have hn := h.len
  by_cases h3 : n < 3
  · exact parse32_short ao n cap w h3
  obtain ⟨b, off, rfl, hb, hcell⟩ := h.some (by omega)
  have c0 := hcell 0 (by omega)
  have hs : xs.getD 0 ByteArray.empty ≠ sandboxB := fun hh => hno (named_plain (by omega) hh)
  by_cases h4 : n = 3
  · exact parse32_three b off n cap _ w h4 hb c0 (beq_false_of sandbox_list hs)
  by_cases hk : xs.getD 0 ByteArray.empty = checkB
  · have c2 := hcell 2 (by omega)
    have he : xs.getD 2 ByteArray.empty = ByteArray.empty := Classical.byContradiction fun hh => hno (named_check (by omega) hk hh)
    rw [hk] at c0
    rw [he] at c2
    exact parse32_bare b off n cap w (by omega) hb c0 c2
  · exact parse32_other b off n cap _ w (by omega) hb c0 (beq_false_of sandbox_list hs) (beq_false_of check_list hk)

/-- ZZParseSupervision's answer where the words name a supervision. -/
def ZZGives (w' : World) (e : Ending) (bundle chk : ByteArray) (cmd : List ByteArray) : Prop :=
  ∃ ao cap, e = .returned (.tuple #[.string bundle, .string chk, .slice ao cmd.length cap, .bool true]) ∧ cmd.length ≤ cap ∧ Rd w' ao cmd.length cmd

set_option maxHeartbeats 400000 in
theorem zz23_yes {ao : Option Addr} {n cap : Nat} {bundle chk : ByteArray} {cmd : List ByteArray} {w : World} (h : Rd w ao n (encL bundle chk cmd)) (hc : cmd ≠ []) (hcap : n ≤ cap) :
    Calls Trym.prog 23 #[.slice ao n cap] w fun e w' => ZZGives w' e bundle chk cmd ∧ Below w.heap.size w w' := by
  have HC := parse32_yes (cap := cap) h hc hcap
  clear h hc hcap
  go_enter Trym.func23, Trym.ntmps23
  go_wp2_with fail
  refine HC.mono ?_
  clear HC
  rintro e w1 ⟨⟨ao1, cap1, rfl, hcap1, hrd⟩, hbel⟩
  have HR : Hid (Rd w1 ao1 cmd.length cmd) := hrd
  clear hrd
  go_wp2
  go_region
  go_wp2
  have hb2 : Below w1.heap.size w1 (w1.alloc (.cells #[.string bundle, .string chk] 55)).drew := ((Below.refl _ _).alloc (Nat.le_refl _) _).drew
  exact bodyPost_ret (v := .tuple #[.string bundle, .string chk, .slice ao1 cmd.length cap1, .bool true]) (by simp [results, Trym.results23, go_sem]) rfl ⟨⟨ao1, cap1, rfl, hcap1, HR.out.later hb2⟩, hbel.trans (hb2.mono hbel.size)⟩

set_option maxHeartbeats 400000 in
theorem zz23_no {ao : Option Addr} {n cap : Nat} {xs : List ByteArray} {w : World} (h : Rd w ao n xs) (hno : ¬ Named xs) :
    Calls Trym.prog 23 #[.slice ao n cap] w fun e w' => e = .returned (.tuple #[.string ⟨#[]⟩, .string ⟨#[]⟩, .slice none 0 0, .bool false]) ∧ Below w.heap.size w w' := by
  have HC := parse32_no (cap := cap) h hno
  clear h hno
  go_enter Trym.func23, Trym.ntmps23
  go_wp2_with fail
  refine HC.mono ?_
  clear HC
  rintro e w1 ⟨rfl, hbel⟩
  go_wp2
  go_region
  go_wp2
  have hb2 : Below w1.heap.size w1 (w1.alloc (.cells #[.string ⟨#[]⟩, .string ⟨#[]⟩] 55)).drew := ((Below.refl _ _).alloc (Nat.le_refl _) _).drew
  exact bodyPost_ret (v := .tuple #[.string ⟨#[]⟩, .string ⟨#[]⟩, .slice none 0 0, .bool false]) (by simp [results, Trym.results23, go_sem]) rfl ⟨rfl, hbel.trans (hb2.mono hbel.size)⟩

end Go.Proofs.Qxb6600665aMods
