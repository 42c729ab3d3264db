/-
  What every row of this seat's proof needs: a slice of strings that came in, as the walks ask for it. By an AI agent.
-/
import Derived.Test.Qxb6600665aModsRows
import Derived.Test.Qxb6600665aModsK1
import Derived.ProofKit
import Derived.ShutString
import Derived.ChangeOld
import Derived.SliceStrings
import Derived.Below
import Derived.Carry
import Derived.OpenShut
namespace Go.Proofs.Qxb6600665aMods
open Go.ChangeShapes Go.WideShapes Go.ChangeAt Go.RowKit

theorem own : ownKnob Trym.prog.godebug = none := by kernel_rfl
theorem laidOut : laidOutB Trym.prog = true := by kernel_rfl
theorem Trym.cells9 : Trym.prog.cellsOf 9 = 1 := by kernel_rfl

theorem rd_of_open {w : World} {x : Addr} {len cap : Nat} {ss : List ByteArray} (hl : len ≤ cap) (hz : ss.length = cap)
    (hcell : ∀ i, i < ss.length → w.cell? (x.add i) = some (.string (ss.getD i ByteArray.empty))) : Rd w (some x) len (ss.take len) := by
  refine ⟨by simp; omega, ?_⟩
  by_cases h0 : len = 0
  · exact .inl h0
  · obtain ⟨b, off, spot⟩ := x
    have hspot : spot = none := by simpa [Addr.add] using World.cell?_spot (hcell 0 (by omega))
    subst hspot
    refine .inr ⟨b, off, rfl, World.block_lt_of_cell? w _ (hcell 0 (by omega)), fun j hj => ?_⟩
    have := hcell j (by omega)
    rw [add_plain] at this
    rw [this]
    simp [hj]

theorem rd_of_trod {H : Type} {enc : TypeId × Value → H} {W : World} {a : Option Addr} {len cap : Nat} {d : DataW H} {p : List MemPlace}
    (h : DataW.Trod enc Trym.prog W 0 (fun _ => true) true 35 (.slice a len cap) d p) : ∃ xs, Rd W a len xs := by
  obtain ⟨fuel, hf⟩ := h
  rcases open_strings Trym.underlying35 Trym.underlying9 Trym.cells9 hf with ⟨hcs, _⟩ | ⟨x, l, c, ss, hcs, _, hl, hm, hz, _, hcell, _⟩
  · simp [Value.cells] at hcs
    obtain ⟨rfl, rfl, rfl⟩ := hcs
    exact ⟨[], rfl, .inl rfl⟩
  · simp [Value.cells] at hcs
    obtain ⟨rfl, rfl, rfl⟩ := hcs
    exact ⟨_, rd_of_open hl (by simpa using hz) hcell⟩

end Go.Proofs.Qxb6600665aMods
