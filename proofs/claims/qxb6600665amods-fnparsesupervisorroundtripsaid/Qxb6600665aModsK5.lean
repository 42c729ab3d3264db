/-
  Contracts of parseSupervision (32). By an AI agent.
-/
import Derived.Test.Qxb6600665aModsK4
import Derived.RegionTactic
import Derived.ChangeAlike
namespace Go.Proofs.Qxb6600665aMods
open Go.RowKit

/-- What Encode makes. -/
def encL (bundle chk : ByteArray) (xs : List ByteArray) : List ByteArray := if chk = ByteArray.empty then sandboxB :: bundle :: xs else checkB :: bundle :: chk :: xs

theorem isEmpty_of_ne {s : ByteArray} (h : s ≠ ByteArray.empty) : s.toList.isEmpty = false := by
  cases hh : s.toList.isEmpty
  · rfl
  · exact absurd (toList_inj (t := ByteArray.empty) (by simpa using hh)) h

theorem enc25 {ao : Option Addr} {n cap : Nat} {bundle chk : ByteArray} {xs : List ByteArray} {w : World} (h : Rd w ao n xs) (h0 : 0 < n) (hn : n ≤ 100000) :
    Calls Trym.prog 25 #[.string bundle, .string chk, .slice ao n cap] w fun e w' => Gives w' e (encL bundle chk xs) ∧ Below w.heap.size w w' := by
  obtain ⟨hl, h | ⟨b, off, rfl, hb, hc⟩⟩ := h
  · omega
  unfold encL
  by_cases hk : chk = ByteArray.empty
  · subst hk
    rw [if_pos rfl]
    exact enc25_plain b off n cap bundle xs w hn hl hb hc
  · rw [if_neg hk]
    exact enc25_check b off n cap bundle chk xs w (isEmpty_of_ne hk) hn hl hb hc

set_option maxHeartbeats 400000 in
theorem parse32_plain (b off n cap : Nat) (s1 : ByteArray) (w : World) (hn3 : 3 ≤ n) (hcap : n ≤ cap) (hb : b < w.heap.size)
    (c0 : w.cell? ⟨b, off, none⟩ = some (.string ⟨#[115, 97, 110, 100, 98, 111, 120]⟩)) (c1 : w.cell? ⟨b, off + 1, none⟩ = some (.string s1)) :
    Calls Trym.prog 32 #[.slice (some ⟨b, off, none⟩) n cap] w fun e w' => e = .returned (.tuple #[.agg #[.string s1, .string ⟨#[]⟩], .slice (some ⟨b, off + 2, none⟩) (n - 2) (cap - 2), .bool true]) ∧ Below w.heap.size w w' := by
  have h3 : (3 : Int) ≤ (n : Int) := by omega
  go_enter Trym.func32, Trym.ntmps32
  go_wp2
  go_region
  go_wp2
  exact bodyPost_ret (v := .tuple #[.agg #[.string s1, .string ⟨#[]⟩], .slice (some ⟨b, off + 2, none⟩) (n - 2) (cap - 2), .bool true]) (by simp [results, Trym.results32, go_sem]) rfl ⟨rfl, ((Below.refl _ _).alloc (Nat.le_refl _) _).drew⟩

set_option maxHeartbeats 400000 in
theorem parse32_check (b off n cap : Nat) (s1 s2 : ByteArray) (w : World) (hn4 : 4 ≤ n) (hcap : n ≤ cap) (hb : b < w.heap.size)
    (c0 : w.cell? ⟨b, off, none⟩ = some (.string ⟨#[99, 104, 101, 99, 107, 112, 111, 105, 110, 116]⟩)) (c1 : w.cell? ⟨b, off + 1, none⟩ = some (.string s1)) (c2 : w.cell? ⟨b, off + 2, none⟩ = some (.string s2)) (hs2 : s2.toList.isEmpty = false) :
    Calls Trym.prog 32 #[.slice (some ⟨b, off, none⟩) n cap] w fun e w' => e = .returned (.tuple #[.agg #[.string s1, .string s2], .slice (some ⟨b, off + 3, none⟩) (n - 3) (cap - 3), .bool true]) ∧ Below w.heap.size w w' := by
  have h3 : (3 : Int) ≤ (n : Int) := by omega
  have h4 : (4 : Int) ≤ (n : Int) := by omega
  go_enter Trym.func32, Trym.ntmps32
  go_wp2
  go_region
  go_wp2
  exact bodyPost_ret (v := .tuple #[.agg #[.string s1, .string s2], .slice (some ⟨b, off + 3, none⟩) (n - 3) (cap - 3), .bool true]) (by simp [results, Trym.results32, go_sem]) rfl ⟨rfl, ((Below.refl _ _).alloc (Nat.le_refl _) _).drew⟩

/-- Nothing is named: fewer than three words. -/
theorem parse32_short (ao : Option Addr) (n cap : Nat) (w : World) (hn3 : n < 3) :
    Calls Trym.prog 32 #[.slice ao n cap] w fun e w' => e = .returned (.tuple #[.agg #[.string ⟨#[]⟩, .string ⟨#[]⟩], .slice none 0 0, .bool false]) ∧ Below w.heap.size w w' := by
  have h3 : ¬ (3 : Int) ≤ (n : Int) := by omega
  have h4 : ¬ (4 : Int) ≤ (n : Int) := by omega
  go_enter Trym.func32, Trym.ntmps32
  go_wp2
  exact bodyPost_ret (v := .tuple #[.agg #[.string ⟨#[]⟩, .string ⟨#[]⟩], .slice none 0 0, .bool false]) (by simp [results, Trym.results32, go_sem]) rfl ⟨rfl, ((Below.refl _ _).alloc (Nat.le_refl _) _)⟩

/-- Three words, the first is not sandbox. -/
theorem parse32_three (b off n cap : Nat) (s0 : ByteArray) (w : World) (hn3 : n = 3) (hb : b < w.heap.size)
    (c0 : w.cell? ⟨b, off, none⟩ = some (.string s0)) (hs : (s0.toList == [115, 97, 110, 100, 98, 111, 120]) = false) :
    Calls Trym.prog 32 #[.slice (some ⟨b, off, none⟩) n cap] w fun e w' => e = .returned (.tuple #[.agg #[.string ⟨#[]⟩, .string ⟨#[]⟩], .slice none 0 0, .bool false]) ∧ Below w.heap.size w w' := by
  subst hn3
  go_enter Trym.func32, Trym.ntmps32
  go_wp2
  exact bodyPost_ret (v := .tuple #[.agg #[.string ⟨#[]⟩, .string ⟨#[]⟩], .slice none 0 0, .bool false]) (by simp [results, Trym.results32, go_sem]) rfl ⟨rfl, ((Below.refl _ _).alloc (Nat.le_refl _) _)⟩

/-- Four words or more, the first is neither. -/
theorem parse32_other (b off n cap : Nat) (s0 : ByteArray) (w : World) (hn4 : 4 ≤ n) (hb : b < w.heap.size)
    (c0 : w.cell? ⟨b, off, none⟩ = some (.string s0)) (hs : (s0.toList == [115, 97, 110, 100, 98, 111, 120]) = false) (hs' : (s0.toList == [99, 104, 101, 99, 107, 112, 111, 105, 110, 116]) = false) :
    Calls Trym.prog 32 #[.slice (some ⟨b, off, none⟩) n cap] w fun e w' => e = .returned (.tuple #[.agg #[.string ⟨#[]⟩, .string ⟨#[]⟩], .slice none 0 0, .bool false]) ∧ Below w.heap.size w w' := by
  have h3 : (3 : Int) ≤ (n : Int) := by omega
  have h4 : (4 : Int) ≤ (n : Int) := by omega
  go_enter Trym.func32, Trym.ntmps32
  go_wp2
  exact bodyPost_ret (v := .tuple #[.agg #[.string ⟨#[]⟩, .string ⟨#[]⟩], .slice none 0 0, .bool false]) (by simp [results, Trym.results32, go_sem]) rfl ⟨rfl, ((Below.refl _ _).alloc (Nat.le_refl _) _)⟩

/-- Four words or more, the first is checkpoint, the third is empty. -/
theorem parse32_bare (b off n cap : Nat) (w : World) (hn4 : 4 ≤ n) (hb : b < w.heap.size)
    (c0 : w.cell? ⟨b, off, none⟩ = some (.string ⟨#[99, 104, 101, 99, 107, 112, 111, 105, 110, 116]⟩)) (c2 : w.cell? ⟨b, off + 2, none⟩ = some (.string ⟨#[]⟩)) :
    Calls Trym.prog 32 #[.slice (some ⟨b, off, none⟩) n cap] w fun e w' => e = .returned (.tuple #[.agg #[.string ⟨#[]⟩, .string ⟨#[]⟩], .slice none 0 0, .bool false]) ∧ Below w.heap.size w w' := by
  have h3 : (3 : Int) ≤ (n : Int) := by omega
  have h4 : (4 : Int) ≤ (n : Int) := by omega
  go_enter Trym.func32, Trym.ntmps32
  go_wp2
  exact bodyPost_ret (v := .tuple #[.agg #[.string ⟨#[]⟩, .string ⟨#[]⟩], .slice none 0 0, .bool false]) (by simp [results, Trym.results32, go_sem]) rfl ⟨rfl, ((Below.refl _ _).alloc (Nat.le_refl _) _)⟩

end Go.Proofs.Qxb6600665aMods
