/- The words that the walks of this seat share: what a slice of integers holds, and that old memory stays. -/
import Derived.Test.Qxb6602791aRows
import Derived.WalkKit
import Derived.WalkSpells
import Derived.WalkLawsBesides
import Derived.WalkSmall
namespace Go.Proofs.Qxb6602791a
open Go.RowKit

/-- The slice value whose address is 'a' and whose length is 'n' holds the numbers 'z'. -/
def Ints (w : World) (a : Option Addr) (n : Nat) (z : List Int) : Prop :=
  0 < n → ∃ b off, a = some ⟨b, off, none⟩ ∧ ∀ i, i < n → w.cell? ⟨b, off + i, none⟩ = some (.int .i64 (z.getD i 0))

theorem Ints.below {w w' : World} {a : Option Addr} {n : Nat} {z : List Int} (h : Ints w a n z) (hb : Below w.heap.size w w') : Ints w' a n z := by
  intro hp
  obtain ⟨b, off, rfl, hc⟩ := h hp
  refine ⟨b, off, rfl, fun i hi => ?_⟩
  have h1 := hc i hi
  rw [hb.cell (p := ⟨b, off + i, none⟩) (World.block_lt_of_cell? _ _ h1)]
  exact h1

def StrictInc (n : Nat) (z : List Int) : Prop := ∀ i, i + 1 < n → z.getD i 0 < z.getD (i + 1) 0
def NonDec (n : Nat) (z : List Int) : Prop := ∀ i, i + 1 < n → z.getD i 0 ≤ z.getD (i + 1) 0

end Go.Proofs.Qxb6602791a
