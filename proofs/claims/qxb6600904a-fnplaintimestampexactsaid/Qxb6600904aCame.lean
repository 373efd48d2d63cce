/-
  A slice of bytes among the arguments, as the walks want it.
-/
import Derived.Test.Qxb6600904aBase
import Derived.ProofKit
import Derived.OpenShut
import Derived.Carry
namespace Go.Proofs.Qxb6600904a
open Go.ChangeShapes Go.WideShapes Go.ChangeAt Go.RowKit

theorem bys_nil (w : World) : Bys w none 0 0 [] := ⟨rfl, Nat.le_refl _, fun _ => rfl, fun x hx => (by cases hx), fun h => absurd h (Nat.lt_irrefl 0)⟩

theorem bys_row {w : World} {x : Addr} {len cap : Nat} {zs : List Int} (hl : len ≤ cap) (hz : zs.length = cap) (hcell : ∀ i, i < zs.length → w.cell? (x.add i) = some (.int .u8 (zs.getD i 0))) (hwz : ∀ n ∈ zs, (Lit.int .u8 n).wf = true) : Bys w (some x) len cap (zs.take len) := by
  refine ⟨by simp; omega, hl, fun h => (by cases h), fun n hn => ?_, fun h0 => ?_⟩
  · have := bounds_u8 (hwz n (List.mem_of_mem_take hn))
    omega
  · obtain ⟨b, off, spot⟩ := x
    have hc0 := hcell 0 (by omega)
    have hspot : spot = none := by simpa [Addr.add] using World.cell?_spot hc0
    subst hspot
    refine ⟨b, off, rfl, World.block_lt_of_cell? w _ hc0, fun i hi => ?_⟩
    have hi' : i < len := by simp at hi; omega
    have := hcell i (by omega)
    rw [add_plain] at this
    rw [List.getElem_take, this]
    simp [List.getD, List.getElem?_eq_getElem (show i < zs.length by omega)]

end Go.Proofs.Qxb6600904a
