/- From the shell's word for a slice that came in to the walks' own. -/
import Derived.Test.Qxb6602791aBase
namespace Go.Proofs.Qxb6602791a
open Go.RowKit

/-- WHAT THE WALK IS TOLD OF A SLICE OF INTEGERS THAT CAME IN: it is nil; or it leads to a row of 'cap' cells, the numbers 'zs' (the first 'len' are its elements, the rest its spare room), each fitting its kind. -/
def IsRow (k : IntKind) (w : World) (a : Option Addr) (len cap : Nat) (zs : List Int) : Prop :=
  (a = none ∧ len = 0 ∧ cap = 0 ∧ zs = []) ∨
  ∃ x, a = some x ∧ len ≤ cap ∧ cap ≤ maxLen ∧ zs.length = cap ∧ (∀ i, i < zs.length → w.cell? (x.add i) = some (.int k (zs.getD i 0))) ∧ ∀ n ∈ zs, (Lit.int k n).wf = true


theorem row_len {w : World} {a : Option Addr} {len cap : Nat} {zs : List Int} (h : IsRow .i64 w a len cap zs) : len ≤ 9223372036854775807 := by
  rcases h with ⟨_, h, _⟩ | ⟨x, _, h, h', _⟩
  · omega
  · unfold maxLen at h'
    omega

theorem row_ints {w : World} {a : Option Addr} {len cap : Nat} {zs : List Int} (h : IsRow .i64 w a len cap zs) : Ints w a len zs := by
  intro hp
  rcases h with ⟨_, h, _⟩ | ⟨x, rfl, hl, _, hz, hc, _⟩
  · omega
  · have h0 := hc 0 (by omega)
    obtain ⟨b, off, sp⟩ := x
    have hs : sp = none := by
      cases sp with
      | none => rfl
      | some s =>
        exfalso
        simp [Addr.add, World.cell?] at h0
        split at h0 <;> simp at h0
    subst hs
    refine ⟨b, off, rfl, fun i hi => ?_⟩
    have h1 := hc i (by omega)
    rcases Nat.eq_zero_or_pos i with h | h
    · subst h
      simpa [Addr.add] using h1
    · rw [Addr.add, if_neg (by omega)] at h1
      exact h1

end Go.Proofs.Qxb6602791a
