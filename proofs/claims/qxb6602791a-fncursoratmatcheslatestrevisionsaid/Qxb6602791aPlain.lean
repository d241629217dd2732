/- The plain law of the estimate's cursor: no Go in sight. 'ys': the revisions' years, 'qs': their quantities. -/
namespace Go.Proofs.Qxb6602791a

/-- The quantity in force when 'c' revisions are. -/
def qAt (planned : Int) (qs : List Int) (c : Nat) : Int := if c = 0 then planned else qs.getD (c - 1) 0
/-- The last year in force. -/
def bAt (ys : List Int) (c : Nat) : Int := if c = 0 then 0 else ys.getD (c - 1) 0
/-- Does the last revision in force fall in year 'y'? -/
def rAt (ys : List Int) (y : Int) (c : Nat) : Bool := decide (0 < c) && (ys.getD (c - 1) 0 == y)

/-- Of the first 'n' years just the first 'c' are no later than 'y', as far as one looks from the front. -/
def Stands (n : Nat) (ys : List Int) (y : Int) (c : Nat) : Prop := c ≤ n ∧ (∀ i, i < c → ys.getD i 0 ≤ y) ∧ (c < n → y < ys.getD c 0)

theorem Stands.unique {n : Nat} {ys : List Int} {y : Int} {c d : Nat} (h : Stands n ys y c) (k : Stands n ys y d) : c = d := by
  rcases Nat.lt_trichotomy c d with e | e | e
  · have h1 := h.2.2 (by have := k.1; omega)
    have h2 := k.2.1 c e
    omega
  · exact e
  · have h1 := k.2.2 (by have := h.1; omega)
    have h2 := h.2.1 d e
    omega

theorem inc_lt {n : Nat} {ys : List Int} (hs : ∀ i, i + 1 < n → ys.getD i 0 < ys.getD (i + 1) 0) : ∀ d i, i + d + 1 < n → ys.getD i 0 < ys.getD (i + d + 1) 0
  | 0, i, h => hs i (by omega)
  | d + 1, i, h => by
    have h1 := inc_lt hs d i (by omega)
    have h2 := hs (i + d + 1) (by omega)
    have e : i + (d + 1) + 1 = i + d + 1 + 1 := by omega
    rw [e]
    omega

theorem inc_lt' {n : Nat} {ys : List Int} (hs : ∀ i, i + 1 < n → ys.getD i 0 < ys.getD (i + 1) 0) (i j : Nat) (h : i < j) (hj : j < n) : ys.getD i 0 < ys.getD j 0 := by
  have := inc_lt hs (j - i - 1) i (by omega)
  have e : i + (j - i - 1) + 1 = j := by omega
  rw [e] at this
  exact this

/-- If the first of the first 'k' is not in force from place 'c' on, and place 'k' is, then 'c' is 'k'. -/
theorem hit_is {n : Nat} {ys : List Int} (hs : ∀ i, i + 1 < n → ys.getD i 0 < ys.getD (i + 1) 0) {y : Int} {c k : Nat} (hck : c ≤ k) (hk : k < n) (hgt : c < k → y < ys.getD c 0) (hle : ys.getD k 0 ≤ y) : c = k := by
  rcases Nat.lt_or_ge c k with h | h
  · have h1 := hgt h
    have h2 := inc_lt' hs c k h hk
    omega
  · omega

theorem rAt_hit {n : Nat} {ys : List Int} (hs : ∀ i, i + 1 < n → ys.getD i 0 < ys.getD (i + 1) 0) {y : Int} {k : Nat} (hk : k < n) (hle : ys.getD k 0 ≤ y) : rAt ys y k = false := by
  unfold rAt
  rcases Nat.eq_zero_or_pos k with h | h
  · simp [h]
  · have := hs (k - 1) (by omega)
    rw [show k - 1 + 1 = k from by omega] at this
    have hne : ¬ ys.getD (k - 1) 0 = y := by omega
    rw [beq_eq_false_iff_ne.2 hne]
    simp

theorem rAt_succ (ys : List Int) (y : Int) (k : Nat) : rAt ys y (k + 1) = (ys.getD k 0 == y) := by
  simp [rAt]

theorem bAt_lt {n : Nat} {ys : List Int} (hs : ∀ i, i + 1 < n → ys.getD i 0 < ys.getD (i + 1) 0) {k : Nat} (hp : 0 < k) (hk : k < n) : bAt ys k < ys.getD k 0 := by
  unfold bAt
  rw [if_neg (by omega)]
  have := hs (k - 1) (by omega)
  rwa [show k - 1 + 1 = k from by omega] at this

theorem qAt_succ (planned : Int) (qs : List Int) (k : Nat) : qAt planned qs (k + 1) = qs.getD k 0 := by simp [qAt]
theorem bAt_succ (ys : List Int) (k : Nat) : bAt ys (k + 1) = ys.getD k 0 := by simp [bAt]

end Go.Proofs.Qxb6602791a
