/-
  parseSupervisor (33), the other ways. By an AI agent.
-/
import Derived.Test.Qxb6600665aModsK9
namespace Go.Proofs.Qxb6600665aMods
open Go.RowKit

set_option maxHeartbeats 400000 in
theorem parse33_one (b off : Nat) (ok : Bool) (s t : ByteArray) (ys cmd : List ByteArray) (w : World) (hb : b < w.heap.size)
    (c0 : w.cell? ⟨b, off, none⟩ = some (.string ⟨#[100, 101, 116, 97, 99, 104, 101, 100]⟩)) (h : Rd w (some ⟨b, off, none⟩) 0 ys) (hp : Parses ys ok s t cmd) :
    Calls Trym.prog 33 #[.slice (some ⟨b, off, none⟩) 1 1] w fun e w' => (∃ ao' cap', e = .returned (.tuple #[.bool true, .agg #[.string s, .string t], .slice ao' cmd.length cap', .bool ok]) ∧ Cmd w' ok ao' cap' cmd) ∧ Below w.heap.size w w' := by
  have HR : Hid (Rd w (some ⟨b, off, none⟩) 0 ys) := h
  have HP : Hid (Parses ys ok s t cmd) := hp
  clear h hp
  go_enter Trym.func33, Trym.ntmps33
  go_wp2_with fail
  go_quiet (fail)
  go_wp2_with fail
  refine (parse32_all (rd_new HR.out _ nq) HP.out (by omega)).mono ?_
  rintro e w1 ⟨⟨ao', cap', rfl, hcmd, hsame⟩, hbel⟩
  obtain ⟨q0, q1, f0, f1, hlt⟩ := result_cells (w := w) (w1 := w1) (.string ⟨#[]⟩) (.string ⟨#[]⟩) nq hbel
  have HC : Hid (Cmd w1 ok ao' cap' cmd) := hcmd
  have HM : Hid (SameBlock (some ⟨b, off, none⟩) ao') := hsame
  have HB : Hid (Below w.heap.size w w1) := store_after hbel
  clear hcmd hbel hsame
  go_wp2
  go_region
  go_wp2
  have hg : ∀ b' off', ao' = some ⟨b', off', none⟩ → b' ≠ w.heap.size := fun b' off' e => by
    obtain ⟨x, hx, hxb⟩ := HM.out _ e
    cases hx
    simp at hxb
    omega
  have t1 := two_cells (v := .string s) (u := .string t) q0 q1
  have t2 := two_cells (v := .string s) (u := .string t) t1.2.1 t1.2.2
  exact bodyPost_ret (v := .tuple #[.bool true, .agg #[.string s, .string t], .slice ao' cmd.length cap', .bool ok]) (by simp [results, Trym.results33, go_sem, t2.1, t2.2.2]) rfl ⟨⟨ao', cap', rfl, (HC.out.stored hg).stored hg⟩, ((((HB.out.setCell (Nat.le_refl _) _).setCell (Nat.le_refl _) _).setCell (Nat.le_refl _) _).setCell (Nat.le_refl _) _).drew⟩

set_option maxHeartbeats 400000 in
theorem parse33_plain (b off n cap : Nat) (ok : Bool) (s t s0 : ByteArray) (xs cmd : List ByteArray) (w : World) (hn : 0 < n) (hcap : n ≤ cap) (hb : b < w.heap.size)
    (c0 : w.cell? ⟨b, off, none⟩ = some (.string s0)) (hs0 : (s0.toList == [100, 101, 116, 97, 99, 104, 101, 100]) = false) (h : Rd w (some ⟨b, off, none⟩) n xs) (hp : Parses xs ok s t cmd) :
    Calls Trym.prog 33 #[.slice (some ⟨b, off, none⟩) n cap] w fun e w' => (∃ ao' cap', e = .returned (.tuple #[.bool false, .agg #[.string s, .string t], .slice ao' cmd.length cap', .bool ok]) ∧ Cmd w' ok ao' cap' cmd) ∧ Below w.heap.size w w' := by
  have h0 : (0 : Int) < (n : Int) := by omega
  have HR : Hid (Rd w (some ⟨b, off, none⟩) n xs) := h
  have HP : Hid (Parses xs ok s t cmd) := hp
  clear h hp
  go_enter Trym.func33, Trym.ntmps33
  go_wp2_with fail
  refine (parse32_all (rd_new HR.out _ 0) HP.out (by omega)).mono ?_
  rintro e w1 ⟨⟨ao', cap', rfl, hcmd, hsame⟩, hbel⟩
  obtain ⟨q0, q1, f0, f1, hlt⟩ := result_cells (w := w) (w1 := w1) (.string ⟨#[]⟩) (.string ⟨#[]⟩) 0 hbel
  have HC : Hid (Cmd w1 ok ao' cap' cmd) := hcmd
  have HM : Hid (SameBlock (some ⟨b, off, none⟩) ao') := hsame
  have HB : Hid (Below w.heap.size w w1) := store_after hbel
  clear hcmd hbel hsame
  go_wp2
  go_region
  go_wp2
  have hg : ∀ b' off', ao' = some ⟨b', off', none⟩ → b' ≠ w.heap.size := fun b' off' e => by
    obtain ⟨x, hx, hxb⟩ := HM.out _ e
    cases hx
    simp at hxb
    omega
  have t1 := two_cells (v := .string s) (u := .string t) q0 q1
  have t2 := two_cells (v := .string s) (u := .string t) t1.2.1 t1.2.2
  exact bodyPost_ret (v := .tuple #[.bool false, .agg #[.string s, .string t], .slice ao' cmd.length cap', .bool ok]) (by simp [results, Trym.results33, go_sem, t2.1, t2.2.2]) rfl ⟨⟨ao', cap', rfl, (HC.out.stored hg).stored hg⟩, ((((HB.out.setCell (Nat.le_refl _) _).setCell (Nat.le_refl _) _).setCell (Nat.le_refl _) _).setCell (Nat.le_refl _) _).drew⟩

set_option maxHeartbeats 400000 in
theorem parse33_zero (ao : Option Addr) (cap : Nat) (ok : Bool) (s t : ByteArray) (xs cmd : List ByteArray) (w : World) (hok : ok = false)
    (h : Rd w ao 0 xs) (hp : Parses xs ok s t cmd) :
    Calls Trym.prog 33 #[.slice ao 0 cap] w fun e w' => (∃ ao' cap', e = .returned (.tuple #[.bool false, .agg #[.string s, .string t], .slice ao' cmd.length cap', .bool ok]) ∧ Cmd w' ok ao' cap' cmd) ∧ Below w.heap.size w w' := by
  have HR : Hid (Rd w ao 0 xs) := h
  have HP : Hid (Parses xs ok s t cmd) := hp
  have HO : Hid (ok = false) := hok
  clear h hp hok
  go_enter Trym.func33, Trym.ntmps33
  go_wp2_with fail
  refine (parse32_all (rd_new HR.out _ 0) HP.out (by omega)).mono ?_
  rintro e w1 ⟨⟨ao', cap', rfl, hcmd, _⟩, hbel⟩
  obtain ⟨q0, q1, f0, f1, hlt⟩ := result_cells (w := w) (w1 := w1) (.string ⟨#[]⟩) (.string ⟨#[]⟩) 0 hbel
  have HC : Hid (Cmd w1 ok ao' cap' cmd) := hcmd
  have HB : Hid (Below w.heap.size w w1) := store_after hbel
  clear hcmd hbel
  go_wp2
  go_region
  go_wp2
  have hg : ∀ b' off', ao' = some ⟨b', off', none⟩ → b' ≠ w.heap.size := fun b' off' e => by
    rw [(HC.out.2.2 HO.out).1] at e
    cases e
  have t1 := two_cells (v := .string s) (u := .string t) q0 q1
  have t2 := two_cells (v := .string s) (u := .string t) t1.2.1 t1.2.2
  exact bodyPost_ret (v := .tuple #[.bool false, .agg #[.string s, .string t], .slice ao' cmd.length cap', .bool ok]) (by simp [results, Trym.results33, go_sem, t2.1, t2.2.2]) rfl ⟨⟨ao', cap', rfl, (HC.out.stored hg).stored hg⟩, ((((HB.out.setCell (Nat.le_refl _) _).setCell (Nat.le_refl _) _).setCell (Nat.le_refl _) _).setCell (Nat.le_refl _) _).drew⟩

/-- What parseSupervisor makes of the words xs. -/
def SParses (xs : List ByteArray) (p ok : Bool) (b c : ByteArray) (cmd : List ByteArray) : Prop :=
  (p = true ∧ ∃ ys, xs = detB :: ys ∧ Parses ys ok b c cmd) ∨ (p = false ∧ (∀ ys, xs ≠ detB :: ys) ∧ Parses xs ok b c cmd)

theorem det_list : detB.toList = [100, 101, 116, 97, 99, 104, 101, 100] := by rw [ByteArray.toList_eq]; rfl

theorem parse33_all {ao : Option Addr} {n cap : Nat} {p ok : Bool} {b c : ByteArray} {xs cmd : List ByteArray} {w : World} (hp : SParses xs p ok b c cmd) (hcap : n ≤ cap) (h : Rd w ao n xs) :
    Calls Trym.prog 33 #[.slice ao n cap] w fun e w' => (∃ ao' cap', e = .returned (.tuple #[.bool p, .agg #[.string b, .string c], .slice ao' cmd.length cap', .bool ok]) ∧ Cmd w' ok ao' cap' cmd) ∧ Below w.heap.size w w' := by
  have hn := h.len
  rcases hp with ⟨rfl, ys, rfl, hp⟩ | ⟨rfl, hno, hp⟩
  · simp at hn
    obtain ⟨g, off, rfl, hb, hcell⟩ := h.some (by omega)
    by_cases hc2 : 2 ≤ cap
    · exact parse33_det g off n cap ok b c ys cmd w (by omega) hcap hb (hcell 0 (by omega)) (h.drop 1) hp hc2
    · obtain rfl : n = 1 := by omega
      obtain rfl : cap = 1 := by omega
      obtain rfl : ys = [] := List.eq_nil_of_length_eq_zero (by omega)
      exact parse33_one g off ok b c [] cmd w hb (hcell 0 (by omega)) ⟨rfl, .inl rfl⟩ hp
  · by_cases h0 : n = 0
    · subst h0
      refine parse33_zero ao cap ok b c xs cmd w ?_ h hp
      rcases hp with ⟨_, hc, rfl⟩ | ⟨h, _⟩
      · exact absurd (named_len ⟨b, c, cmd, hc, rfl⟩) (by omega)
      · exact h
    · obtain ⟨g, off, rfl, hb, hcell⟩ := h.some (by omega)
      refine parse33_plain g off n cap ok b c _ xs cmd w (by omega) hcap hb (hcell 0 (by omega)) (beq_false_of det_list ?_) h hp
      match xs, hn, hno with
      | [], hn, _ => exact absurd hn (by simp; omega)
      | x :: ys, _, hno => intro hx; exact hno ys (by rw [show x = detB from hx])

set_option maxHeartbeats 400000 in
theorem zz28 {ao : Option Addr} {n cap : Nat} {p ok : Bool} {b c : ByteArray} {xs cmd : List ByteArray} {w : World} (hp : SParses xs p ok b c cmd) (hcap : n ≤ cap) (h : Rd w ao n xs) :
    Calls Trym.prog 28 #[.slice ao n cap] w fun e w' => (∃ ao' cap', e = .returned (.tuple #[.bool p, .string b, .string c, .slice ao' cmd.length cap', .bool ok]) ∧ Cmd w' ok ao' cap' cmd) ∧ Below w.heap.size w w' := by
  have HC := parse33_all hp hcap h
  clear h hp hcap
  go_enter Trym.func28, Trym.ntmps28
  go_wp2_with fail
  refine HC.mono ?_
  clear HC
  rintro e w1 ⟨⟨ao1, cap1, rfl, hcmd⟩, hbel⟩
  have HR : Hid (Cmd w1 ok ao1 cap1 cmd) := hcmd
  clear hcmd
  go_wp2
  go_region
  go_wp2
  have hb2 : Below w1.heap.size w1 (w1.alloc (.cells #[.string b, .string c] 55)).drew := ((Below.refl _ _).alloc (Nat.le_refl _) _).drew
  exact bodyPost_ret (v := .tuple #[.bool p, .string b, .string c, .slice ao1 cmd.length cap1, .bool ok]) (by simp [results, Trym.results28, go_sem]) rfl ⟨⟨ao1, cap1, rfl, HR.out.later hb2⟩, next hbel hb2⟩

end Go.Proofs.Qxb6600665aMods
