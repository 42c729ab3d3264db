/-
  parseSupervisor (33) and ZZParseSupervisor (28). By an AI agent.
-/
import Derived.Test.Qxb6600665aModsK8
import Derived.Test.Qxb6600665aModsL3
namespace Go.Proofs.Qxb6600665aMods
open Go.RowKit

/-- What parseSupervision makes of the words xs. -/
def Parses (xs : List ByteArray) (ok : Bool) (b c : ByteArray) (cmd : List ByteArray) : Prop :=
  (ok = true ∧ cmd ≠ [] ∧ xs = encL b c cmd) ∨ (ok = false ∧ ¬ Named xs ∧ b = ⟨#[]⟩ ∧ c = ⟨#[]⟩ ∧ cmd = [])

/-- The slice that lies behind the answer: nil where the answer is no. -/
def Cmd (w' : World) (ok : Bool) (ao : Option Addr) (cap : Nat) (cmd : List ByteArray) : Prop :=
  cmd.length ≤ cap ∧ Rd w' ao cmd.length cmd ∧ (ok = false → ao = none ∧ cap = 0)

theorem Cmd.later {w w' : World} {ok : Bool} {ao : Option Addr} {cap : Nat} {cmd : List ByteArray} (h : Cmd w ok ao cap cmd) (hb : Below w.heap.size w w') : Cmd w' ok ao cap cmd :=
  ⟨h.1, h.2.1.later hb, h.2.2⟩

/-- The second slice lies in the first one's block. -/
def SameBlock (ao ao' : Option Addr) : Prop := ∀ x', ao' = some x' → ∃ x, ao = some x ∧ x'.block = x.block

theorem parse32_all {ao : Option Addr} {n cap : Nat} {ok : Bool} {b c : ByteArray} {xs cmd : List ByteArray} {w : World} (h : Rd w ao n xs) (hp : Parses xs ok b c cmd) (hcap : n ≤ cap) :
    Calls Trym.prog 32 #[.slice ao n cap] w fun e w' => (∃ ao' cap', e = .returned (.tuple #[.agg #[.string b, .string c], .slice ao' cmd.length cap', .bool ok]) ∧ Cmd w' ok ao' cap' cmd ∧ SameBlock ao ao') ∧ Below w.heap.size w w' := by
  rcases hp with ⟨rfl, hc, rfl⟩ | ⟨rfl, hno, rfl, rfl, rfl⟩
  · have hcl : 0 < cmd.length := List.length_pos_iff.2 hc
    unfold encL at h
    by_cases hk : c = ByteArray.empty
    · subst hk
      rw [if_pos rfl] at h
      have hn := h.len
      simp at hn
      obtain ⟨g, off, rfl, hb, hcell⟩ := h.some (by omega)
      refine (parse32_plain g off n cap b w (by omega) hcap hb (hcell 0 (by omega)) (hcell 1 (by omega))).mono fun e w' ⟨he, hbel⟩ => ⟨⟨some ⟨g, off + 2, none⟩, cap - 2, ?_, ⟨by omega, ?_, fun h => by cases h⟩, fun x hx => ⟨_, rfl, by cases hx; rfl⟩⟩, hbel⟩
      · rw [he, show n - 2 = cmd.length by omega]; rfl
      · have := (h.later hbel).drop 2
        rw [show n - 2 = cmd.length by omega] at this
        exact this
    · rw [if_neg hk] at h
      have hn := h.len
      simp at hn
      obtain ⟨g, off, rfl, hb, hcell⟩ := h.some (by omega)
      refine (parse32_check g off n cap b c w (by omega) hcap hb (hcell 0 (by omega)) (hcell 1 (by omega)) (hcell 2 (by omega)) (isEmpty_of_ne hk)).mono fun e w' ⟨he, hbel⟩ => ⟨⟨some ⟨g, off + 3, none⟩, cap - 3, ?_, ⟨by omega, ?_, fun h => by cases h⟩, fun x hx => ⟨_, rfl, by cases hx; rfl⟩⟩, hbel⟩
      · rw [he, show n - 3 = cmd.length by omega]
      · have := (h.later hbel).drop 3
        rw [show n - 3 = cmd.length by omega] at this
        exact this
  · refine (parse32_no h hno).mono ?_
    rintro e w' ⟨he, hb⟩
    exact ⟨⟨none, 0, he, ⟨Nat.le_refl _, ⟨rfl, .inl rfl⟩, fun _ => ⟨rfl, rfl⟩⟩, fun x hx => by cases hx⟩, hb⟩

theorem unN {B k : Nat} {w w' : World} (h : Below B (w.drewN k) w') : Below B w w' := ⟨h.os, h.tape, h.output, h.size, h.block⟩

/-- What the walk of parseSupervisor needs of the world behind the call of parseSupervision: its own result's cells. -/
theorem result_cells {w w1 : World} (v u : Value) (k : Nat) (hb0 : Below ((w.alloc (.cells #[v, u] 55)).drewN k).heap.size ((w.alloc (.cells #[v, u] 55)).drewN k) w1) :
    w1.cell? ⟨w.heap.size, 0, none⟩ = some v ∧ w1.cell? ⟨w.heap.size, 1, none⟩ = some u ∧ w1.frozen? ⟨w.heap.size, 0, none⟩ = false ∧ w1.frozen? ⟨w.heap.size, 1, none⟩ = false ∧ w.heap.size < w1.heap.size := by
  have hb : Below (w.alloc (.cells #[v, u] 55)).heap.size (w.alloc (.cells #[v, u] 55)) w1 := unN hb0
  have hs := hb.size
  simp at hs
  refine ⟨?_, ?_, ?_, ?_, by omega⟩
  · rw [hb.cell (by simp)]; rw [World.cell?_alloc_at _ _ _ _ rfl]; rfl
  · rw [hb.cell (by simp)]; rw [World.cell?_alloc_at _ _ _ _ rfl]; rfl
  · rw [hb.frozen (by simp)]; exact World.frozen?_alloc_at _ _ _ _ rfl
  · rw [hb.frozen (by simp)]; exact World.frozen?_alloc_at _ _ _ _ rfl

theorem rd_new {w : World} {ao : Option Addr} {n : Nat} {xs : List ByteArray} (h : Rd w ao n xs) (o : Obj) (k : Nat) : Rd ((w.alloc o).drewN k) ao n xs :=
  h.later (belowN ((Below.refl _ _).alloc (Nat.le_refl _) _) k)

theorem store_after {w w1 : World} {o : Obj} {k : Nat} (h : Below (w.alloc o).heap.size ((w.alloc o).drewN k) w1) : Below w.heap.size w w1 :=
  next (w1 := (w.alloc o).drewN k) (belowN ((Below.refl _ _).alloc (Nat.le_refl _) _) k) h

/-- The answer's slice still reads behind two stores into a block above what it was read below. -/
theorem Cmd.stored {w1 : World} {ok : Bool} {ao : Option Addr} {cap g : Nat} {cmd : List ByteArray} {v u : Value} (h : Cmd w1 ok ao cap cmd) (hg : ∀ b off, ao = some ⟨b, off, none⟩ → b ≠ g) :
    Cmd ((w1.setCell ⟨g, 0, none⟩ v).setCell ⟨g, 1, none⟩ u) ok ao cap cmd := by
  obtain ⟨h1, ⟨hl, h2⟩, h3⟩ := h
  refine ⟨h1, ⟨hl, ?_⟩, h3⟩
  rcases h2 with h2 | ⟨b, off, e, hlt, hc⟩
  · exact .inl h2
  · refine .inr ⟨b, off, e, by simpa [World.setCell] using hlt, fun j hj => ?_⟩
    have hne := hg b off e
    rw [World.cell?_of_block (Below.heap_setCell _ _ _ _ hne), World.cell?_of_block (Below.heap_setCell _ _ _ _ hne)]
    exact hc j hj

theorem two_cells {W : World} {g : Nat} {v u a b : Value} (q0 : W.cell? ⟨g, 0, none⟩ = some a) (q1 : W.cell? ⟨g, 1, none⟩ = some b) :
    (W.setCell ⟨g, 0, none⟩ v).cell? ⟨g, 0, none⟩ = some v ∧ ((W.setCell ⟨g, 0, none⟩ v).setCell ⟨g, 1, none⟩ u).cell? ⟨g, 0, none⟩ = some v ∧ ((W.setCell ⟨g, 0, none⟩ v).setCell ⟨g, 1, none⟩ u).cell? ⟨g, 1, none⟩ = some u := by
  have e0 := World.cell?_setCell_same' W ⟨g, 0, none⟩ v (by simp [q0])
  have e1 : (W.setCell ⟨g, 0, none⟩ v).cell? ⟨g, 1, none⟩ = some b := (World.cell?_setCell_other _ _ _ _ (by simp)).trans q1
  exact ⟨e0, (World.cell?_setCell_other _ _ _ _ (by simp)).trans e0, World.cell?_setCell_same' _ _ _ (by simp [e1])⟩

set_option maxHeartbeats 400000 in
theorem parse33_det (b off n cap : Nat) (ok : Bool) (s t : ByteArray) (ys cmd : List ByteArray) (w : World) (hn : 0 < n) (hcap : n ≤ cap) (hb : b < w.heap.size)
    (c0 : w.cell? ⟨b, off, none⟩ = some (.string ⟨#[100, 101, 116, 97, 99, 104, 101, 100]⟩)) (h : Rd w (some ⟨b, off + 1, none⟩) (n - 1) ys) (hp : Parses ys ok s t cmd) (hc2 : 2 ≤ cap) :
    Calls Trym.prog 33 #[.slice (some ⟨b, off, none⟩) n cap] w fun e w' => (∃ ao' cap', e = .returned (.tuple #[.bool true, .agg #[.string s, .string t], .slice ao' cmd.length cap', .bool ok]) ∧ Cmd w' ok ao' cap' cmd) ∧ Below w.heap.size w w' := by
  have h0 : (0 : Int) < (n : Int) := by omega
  have h1 : (1 : Int) ≤ (n : Int) := by omega
  have h2 : (n : Int) ≤ (cap : Int) := by omega
  have h3 : ¬ cap = 1 := by omega
  have HR : Hid (Rd w (some ⟨b, off + 1, none⟩) (n - 1) ys) := h
  have HP : Hid (Parses ys ok s t cmd) := hp
  clear h hp
  go_enter Trym.func33, Trym.ntmps33
  go_wp2_with fail
  go_quiet (fail)
  go_wp2_with fail
  refine (parse32_all (rd_new HR.out _ nq) HP.out (by omega)).mono ?_
  rintro e w1 ⟨⟨ao', cap', rfl, hcmd, hsame⟩, hbel⟩
  obtain ⟨q0, q1, f0, f1, hlt⟩ := result_cells (w := w) (w1 := w1) (.string ⟨#[]⟩) (.string ⟨#[]⟩) nq hbel
  have HC : Hid (Cmd w1 ok ao' cap' cmd) := hcmd
  have HM : Hid (SameBlock (some ⟨b, off + 1, none⟩) ao') := hsame
  have HB : Hid (Below w.heap.size w w1) := store_after hbel
  clear hcmd hbel hsame
  go_wp2
  go_region
  go_wp2
  have hg : ∀ b' off', ao' = some ⟨b', off', none⟩ → b' ≠ w.heap.size := fun b' off' e => by
    obtain ⟨x, hx, hxb⟩ := HM.out _ e
    cases hx
    simp at hxb
    omega
  have t1 := two_cells (v := .string s) (u := .string t) q0 q1
  have t2 := two_cells (v := .string s) (u := .string t) t1.2.1 t1.2.2
  exact bodyPost_ret (v := .tuple #[.bool true, .agg #[.string s, .string t], .slice ao' cmd.length cap', .bool ok]) (by simp [results, Trym.results33, go_sem, t2.1, t2.2.2]) rfl ⟨⟨ao', cap', rfl, (HC.out.stored hg).stored hg⟩, ((((HB.out.setCell (Nat.le_refl _) _).setCell (Nat.le_refl _) _).setCell (Nat.le_refl _) _).setCell (Nat.le_refl _) _).drew⟩

end Go.Proofs.Qxb6600665aMods
