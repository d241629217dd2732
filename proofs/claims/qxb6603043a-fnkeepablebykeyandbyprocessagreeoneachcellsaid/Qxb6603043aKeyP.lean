/- Plain law of the groups by key. -/
import Derived.Test.Qxb6603043aFilt
namespace Go.Proofs.Qxb6603043a.UF

def sumTo (f : Nat → Nat) : Nat → Nat
  | 0 => 0
  | j + 1 => sumTo f j + f j

theorem sumTo_mono (f : Nat → Nat) {a b : Nat} (h : a ≤ b) : sumTo f a ≤ sumTo f b := by
  induction b with
  | zero => obtain rfl : a = 0 := by omega
            exact Nat.le_refl _
  | succ b ih =>
    rcases Nat.lt_or_ge a (b + 1) with h1 | h1
    · have := ih (by omega)
      simp only [sumTo]
      omega
    · obtain rfl : a = b + 1 := by omega
      exact Nat.le_refl _

theorem sumTo_congr {f g : Nat → Nat} {m : Nat} (h : ∀ j, j < m → f j = g j) : sumTo f m = sumTo g m := by
  induction m with
  | zero => rfl
  | succ m ih =>
    simp only [sumTo]
    rw [ih (fun j hj => h j (by omega)), h m (by omega)]

theorem sumTo_bump (f : Nat → Nat) (q m : Nat) : sumTo (fun j => f j + if j = q then 1 else 0) m = sumTo f m + if q < m then 1 else 0 := by
  induction m with
  | zero => simp [sumTo]
  | succ m ih =>
    simp only [sumTo]
    rw [ih]
    by_cases e : m = q
    · subst e
      have e1 : (if m < m then 1 else 0 : Nat) = 0 := if_neg (by omega)
      have e2 : (if m < m + 1 then 1 else 0 : Nat) = 1 := if_pos (by omega)
      rw [e1, e2, if_pos rfl]
      omega
    · by_cases h : q < m
      · have e1 : (if q < m then 1 else 0 : Nat) = 1 := if_pos h
        have e2 : (if q < m + 1 then 1 else 0 : Nat) = 1 := if_pos (by omega)
        rw [e1, e2, if_neg e]
        omega
      · have e1 : (if q < m then 1 else 0 : Nat) = 0 := if_neg h
        have e2 : (if q < m + 1 then 1 else 0 : Nat) = 0 := if_neg (by omega)
        rw [e1, e2, if_neg e]
        omega

theorem sumTo_zero (m : Nat) : sumTo (fun _ => 0) m = 0 := by
  induction m with
  | zero => rfl
  | succ m ih => simp only [sumTo]; omega

/-- Kept, and in group 'j'. -/
def prG (kp : Nat → Bool) (kap : Nat → Nat) (j i : Nat) : Bool := kp i && (kap i == j)

theorem sum_groups (kp : Nat → Bool) (kap : Nat → Nat) (m : Nat) : ∀ k, (∀ i, i < k → kp i = true → kap i < m) → sumTo (fun j => (filt (prG kp kap j) k).length) m = (filt kp k).length
  | 0, _ => by
    show sumTo (fun _ => 0) m = 0
    exact sumTo_zero m
  | k + 1, h => by
    have ih := sum_groups kp kap m k (fun i hi => h i (by omega))
    by_cases hk : kp k = true
    · have h1 : ∀ j, (filt (prG kp kap j) (k + 1)).length = (filt (prG kp kap j) k).length + if j = kap k then 1 else 0 := fun j => by
        rw [filt_succ]
        by_cases e : j = kap k
        · rw [if_pos (by simp [prG, hk, e]), if_pos e]; simp
        · have : (kap k == j) = false := by rw [beq_eq_false_iff_ne]; exact fun e2 => e e2.symm
          rw [if_neg (by simp [prG, this]), if_neg e]; rfl
      rw [sumTo_congr (fun j _ => h1 j), sumTo_bump, if_pos (h k (by omega) hk), ih, filt_succ, if_pos hk]
      simp
    · have h1 : ∀ j, (filt (prG kp kap j) (k + 1)).length = (filt (prG kp kap j) k).length := fun j => by
        rw [filt_succ, if_neg (by simp [prG, hk])]
      rw [sumTo_congr (fun j _ => h1 j), ih, filt_succ, if_neg hk]

theorem prG_length_mono (kp : Nat → Bool) (kap : Nat → Nat) (j : Nat) {a b : Nat} (h : a ≤ b) : (filt (prG kp kap j) a).length ≤ (filt (prG kp kap j) b).length := by
  induction b with
  | zero => obtain rfl : a = 0 := by omega
            exact Nat.le_refl _
  | succ b ih =>
    rcases Nat.lt_or_ge a (b + 1) with h1 | h1
    · have := ih (by omega)
      rw [filt_succ]
      split
      · simp; omega
      · exact this
    · obtain rfl : a = b + 1 := by omega
      exact Nat.le_refl _

/-- 'F': the last of the first 'm' that bears a key. -/
structure Lasts {α : Type} (m : Nat) (K : Nat → α) (F : α → Option Nat) : Prop where
  hits : ∀ s j, F s = some j → j < m ∧ K j = s ∧ ∀ i, j < i → i < m → K i ≠ s
  lacks : ∀ s, F s = none → ∀ i, i < m → K i ≠ s

theorem Lasts.start {α : Type} (K : Nat → α) : Lasts 0 K (fun _ => none) := ⟨fun _ _ h => (by cases h), fun _ _ i hi => by omega⟩

theorem Lasts.step {α : Type} [DecidableEq α] {m : Nat} {K : Nat → α} {F : α → Option Nat} (h : Lasts m K F) : Lasts (m + 1) K (fun s => if s = K m then some m else F s) := by
  refine ⟨fun s j hj => ?_, fun s hs i hi => ?_⟩
  · by_cases e : s = K m
    · simp [e] at hj
      subst hj
      exact ⟨by omega, e.symm, fun i h1 h2 => by omega⟩
    · simp [e] at hj
      obtain ⟨a, b, c⟩ := h.hits s j hj
      refine ⟨by omega, b, fun i h1 h2 => ?_⟩
      by_cases ei : i = m
      · subst ei; exact fun e2 => e e2.symm
      · exact c i h1 (by omega)
  · by_cases e : s = K m
    · simp [e] at hs
    · simp [e] at hs
      by_cases ei : i = m
      · subst ei; exact fun e2 => e e2.symm
      · exact h.lacks s hs i (by omega)

theorem Lasts.some_of {α : Type} {m : Nat} {K : Nat → α} {F : α → Option Nat} (h : Lasts m K F) {s : α} {i : Nat} (hi : i < m) (hk : K i = s) : ∃ j, F s = some j := by
  cases hF : F s with
  | none => exact absurd hk (h.lacks s hF i hi)
  | some j => exact ⟨j, rfl⟩

/-- The group at a key's last place is the kept of that key; at an earlier one it is empty. -/
theorem group_last {α : Type} [DecidableEq α] {m n : Nat} {K Q : Nat → α} {F : α → Option Nat} (h : Lasts m K F) {kp : Nat → Bool} {kap : Nat → Nat} (hk : ∀ i, i < n → kp i = true → F (Q i) = some (kap i)) {j : Nat} (hj : j < m) (hl : ∀ i, j < i → i < m → K i ≠ K j) :
    filt (prG kp kap j) n = filt (fun i => kp i && decide (Q i = K j)) n := by
  refine filt_congr (fun i hi => ?_)
  unfold prG
  cases hkp : kp i with
  | false => rfl
  | true =>
    have h1 := hk i hi hkp
    obtain ⟨a, b, c⟩ := h.hits _ _ h1
    by_cases e : kap i = j
    · have : Q i = K j := by rw [← b, e]
      simp [e, this]
    · have h2 : Q i ≠ K j := fun e2 => by
        rw [e2] at c b
        rcases Nat.lt_trichotomy (kap i) j with h3 | h3 | h3
        · exact c j h3 hj rfl
        · exact e h3
        · exact hl (kap i) h3 a b
      have h3 : (kap i == j) = false := by rw [beq_eq_false_iff_ne]; exact e
      simp [h3, h2]

theorem group_early {α : Type} {m n : Nat} {K Q : Nat → α} {F : α → Option Nat} (h : Lasts m K F) {kp : Nat → Bool} {kap : Nat → Nat} (hk : ∀ i, i < n → kp i = true → F (Q i) = some (kap i)) {j l : Nat} (hl1 : j < l) (hl2 : l < m) (hl : K l = K j) :
    filt (prG kp kap j) n = [] := by
  refine filt_nil (fun i hi => ?_)
  unfold prG
  cases hkp : kp i with
  | false => rfl
  | true =>
    have h1 := hk i hi hkp
    obtain ⟨a, b, c⟩ := h.hits _ _ h1
    by_cases e : kap i = j
    · subst e
      exact absurd (by rw [hl, b]) (c l hl1 hl2)
    · have h3 : (kap i == j) = false := by rw [beq_eq_false_iff_ne]; exact e
      simp [h3]

end Go.Proofs.Qxb6603043a.UF
