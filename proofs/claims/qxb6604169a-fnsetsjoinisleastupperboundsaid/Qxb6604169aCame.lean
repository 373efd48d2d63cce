/-
  A slice of strings among the arguments, as the walks want it.
-/
import Derived.Test.Qxb6604169aBase
import Derived.ProofKit
import Derived.OpenShut
import Derived.SliceStrings
import Derived.Carry
namespace Go.Proofs.Qxb6604169a
open Go.ChangeShapes Go.WideShapes Go.ChangeAt Go.RowKit

theorem cells9 : Try.prog.cellsOf 9 = 1 := by kernel_rfl

/-- A slice of strings that came in, as the walks want it. -/
theorem came {H : Type} {enc : TypeId × Value → H} {W : World} {a : Option Addr} {len cap : Nat} {d : DataW H} {p : List MemPlace} (h : DataW.Trod enc Try.prog W 0 (fun _ => true) true 22 (.slice a len cap) d p) :
    ∃ L, Strs W a len cap L ∧ len ≤ 9223372036854775807 := by
  obtain ⟨fuel, hf⟩ := h
  rcases open_strings Try.underlying22 Try.underlying9 cells9 hf with ⟨hcs, _⟩ | ⟨x, l, c, ss, hcs, _, hl, hm, hz, _, hcell, hws⟩
  · simp [Value.cells] at hcs
    obtain ⟨rfl, rfl, rfl⟩ := hcs
    exact ⟨[], ⟨rfl, Nat.le_refl _, fun _ => rfl, fun h => absurd h (Nat.lt_irrefl 0)⟩, by omega⟩
  · simp [Value.cells] at hcs
    obtain ⟨rfl, rfl, rfl⟩ := hcs
    simp only [if_true] at hz
    unfold maxLen at hm
    refine ⟨ss.take len, ⟨by simp; omega, hl, fun h => (by cases h), fun h0 => ?_⟩, by omega⟩
    obtain ⟨b, off, spot⟩ := x
    have hc0 := hcell 0 (by omega)
    have hspot : spot = none := by simpa [Addr.add] using World.cell?_spot hc0
    subst hspot
    refine ⟨b, off, rfl, World.block_lt_of_cell? W _ hc0, fun i hi => ?_⟩
    have hi' : i < len := by simp at hi; omega
    have := hcell i (by omega)
    rw [List.getElem_take]
    rw [add_plain] at this
    rw [this]
    simp [List.getD, List.getElem?_eq_getElem (show i < ss.length by omega)]

end Go.Proofs.Qxb6604169a
