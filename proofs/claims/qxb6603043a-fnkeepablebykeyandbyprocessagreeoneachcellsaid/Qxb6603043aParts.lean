/- The plain law of the parts: numbered by their roots. -/
import Derived.Test.Qxb6603043aUF
namespace Go.Proofs.Qxb6603043a.UF

/-- How many of the first 'k' are roots. -/
def num (R : Nat → Nat) : Nat → Nat
  | 0 => 0
  | k + 1 => num R k + if R k = k then 1 else 0

theorem num_le_succ (R : Nat → Nat) (k : Nat) : num R k ≤ num R (k + 1) := by simp [num]
theorem num_mono (R : Nat → Nat) {a b : Nat} (h : a ≤ b) : num R a ≤ num R b := by
  induction b with
  | zero => obtain rfl : a = 0 := by omega
            exact Nat.le_refl _
  | succ b ih =>
    rcases Nat.lt_or_ge a (b + 1) with h1 | h1
    · exact Nat.le_trans (ih (by omega)) (num_le_succ R b)
    · obtain rfl : a = b + 1 := by omega
      exact Nat.le_refl _
theorem num_le (R : Nat → Nat) (k : Nat) : num R k ≤ k := by
  induction k with
  | zero => simp [num]
  | succ k ih => simp only [num]; split <;> omega
theorem num_root {R : Nat → Nat} {k : Nat} (h : R k = k) : num R (k + 1) = num R k + 1 := by simp [num, h]
theorem num_other {R : Nat → Nat} {k : Nat} (h : R k ≠ k) : num R (k + 1) = num R k := by simp [num, h]

/-- The number of a root's part is below the count behind it. -/
theorem num_lt {R : Nat → Nat} {i : Nat} (hle : R i ≤ i) (hroot : R (R i) = R i) : num R (R i) < num R (i + 1) := by
  have h1 := num_root hroot
  have h2 := num_mono R (show R i + 1 ≤ i + 1 by omega)
  omega

/-- Of the first 'k' those that lie in part 'p'. -/
def partL (R : Nat → Nat) (k p : Nat) : List Nat := (List.range k).filter (fun i => num R (R i) == p)

theorem partL_succ (R : Nat → Nat) (k p : Nat) : partL R (k + 1) p = if num R (R k) = p then partL R k p ++ [k] else partL R k p := by
  unfold partL
  rw [List.range_succ, List.filter_append]
  by_cases h : num R (R k) = p
  · simp [h]
  · simp [h]

theorem partL_length_le (R : Nat → Nat) (k p : Nat) : (partL R k p).length ≤ k := by
  unfold partL
  have := List.length_filter_le (fun i => num R (R i) == p) (List.range k)
  simpa using this

/-- A part that no root has opened yet is empty. -/
theorem partL_new {R : Nat → Nat} {k p : Nat} (h : ∀ i, i < k → R i ≤ i ∧ R (R i) = R i) (hp : num R k ≤ p) : partL R k p = [] := by
  unfold partL
  rw [List.filter_eq_nil_iff]
  intro i hi
  have hi' : i < k := by simpa using hi
  obtain ⟨h1, h2⟩ := h i hi'
  have h3 := num_lt h1 h2
  have h4 := num_mono R (show i + 1 ≤ k by omega)
  simp
  omega

/-- What the law's own counter holds: how many of the first 'i' lie in part 'p'. -/
theorem partL_get {R : Nat → Nat} {i n p : Nat} (hi : i < n) (hp : num R (R i) = p) : (partL R i p).length < (partL R n p).length ∧ (partL R n p)[(partL R i p).length]? = some i := by
  induction n with
  | zero => omega
  | succ n ih =>
    rw [partL_succ R n p]
    by_cases e : i = n
    · subst e
      rw [if_pos hp]
      simp
    · obtain ⟨h1, h2⟩ := ih (by omega)
      split
      · refine ⟨by simp; omega, ?_⟩
        rw [List.getElem?_append_left h1]
        exact h2
      · exact ⟨h1, h2⟩

end Go.Proofs.Qxb6603043a.UF
