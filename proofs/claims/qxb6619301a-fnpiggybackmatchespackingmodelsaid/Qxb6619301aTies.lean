/-
  FROM THE ROW's READING OF A SLICE OF ROWS OF BYTES TO WHAT THE WALKS ARE TOLD.
-/
import Derived.Test.Qxb6619301aSmall
import Derived.OpenShut
namespace Go.Proofs.Qxb6619301a
open Go.RowKit

theorem rowB_of {W : World} {x : Addr} {n m : Nat} {f : Nat → Value} (hn : n ≤ m) (hc : ∀ i, i < m → W.cell? (x.add i) = some (f i)) : RowB W.heap.size W (some x) n f := fun h0 => by
  obtain ⟨b, off, spot⟩ := x
  have hspot : spot = none := by simpa [Addr.add] using World.cell?_spot (hc 0 (by omega))
  subst hspot
  have hc' : ∀ i, i < m → W.cell? ⟨b, off + i, none⟩ = some (f i) := fun i hi => by rw [← Go.WideShapes.add_plain]; exact hc i hi
  exact ⟨b, off, rfl, World.block_lt_of_cell? W _ (hc' 0 (by omega)), fun i hi => hc' i (by omega)⟩
end Go.Proofs.Qxb6619301a
