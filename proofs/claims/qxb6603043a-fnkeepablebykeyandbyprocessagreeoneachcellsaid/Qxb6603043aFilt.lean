/- Plain law: the kept operations of one process or one key, in their order. -/
namespace Go.Proofs.Qxb6603043a.UF

/-- Of the first 'k' those that 'pr' takes. -/
def filt (pr : Nat → Bool) (k : Nat) : List Nat := (List.range k).filter pr

theorem filt_succ (pr : Nat → Bool) (k : Nat) : filt pr (k + 1) = if pr k = true then filt pr k ++ [k] else filt pr k := by
  unfold filt
  rw [List.range_succ, List.filter_append]
  by_cases h : pr k = true
  · simp [h]
  · simp [h]

theorem filt_length_le (pr : Nat → Bool) (k : Nat) : (filt pr k).length ≤ k := by
  unfold filt
  have := List.length_filter_le pr (List.range k)
  simpa using this

theorem filt_get {pr : Nat → Bool} {i n : Nat} (hi : i < n) (hp : pr i = true) : (filt pr i).length < (filt pr n).length ∧ (filt pr n)[(filt pr i).length]? = some i := by
  induction n with
  | zero => omega
  | succ n ih =>
    rw [filt_succ pr n]
    by_cases e : i = n
    · subst e
      rw [if_pos hp]
      simp
    · obtain ⟨h1, h2⟩ := ih (by omega)
      split
      · refine ⟨by simp; omega, ?_⟩
        rw [List.getElem?_append_left h1]
        exact h2
      · exact ⟨h1, h2⟩

theorem filt_congr {pr pr' : Nat → Bool} {k : Nat} (h : ∀ i, i < k → pr i = pr' i) : filt pr k = filt pr' k := by
  unfold filt
  exact List.filter_congr (fun i hi => h i (by simpa using hi))

theorem filt_nil {pr : Nat → Bool} {k : Nat} (h : ∀ i, i < k → pr i = false) : filt pr k = [] := by
  unfold filt
  rw [List.filter_eq_nil_iff]
  intro i hi
  rw [h i (by simpa using hi)]
  simp

theorem mem_filt {pr : Nat → Bool} {k i : Nat} : i ∈ filt pr k ↔ i < k ∧ pr i = true := by
  unfold filt
  simp

/-- The names of the kept, each once, in the order of their first. -/
def names {α : Type} [DecidableEq α] (kp : Nat → Bool) (P : Nat → α) : Nat → List α
  | 0 => []
  | k + 1 => if kp k = true ∧ P k ∉ names kp P k then names kp P k ++ [P k] else names kp P k

theorem names_new {α : Type} [DecidableEq α] {kp : Nat → Bool} {P : Nat → α} {k : Nat} (h : kp k = true) (hn : P k ∉ names kp P k) : names kp P (k + 1) = names kp P k ++ [P k] := by
  simp [names, h, hn]
theorem names_old {α : Type} [DecidableEq α] {kp : Nat → Bool} {P : Nat → α} {k : Nat} (h : kp k = true → P k ∈ names kp P k) : names kp P (k + 1) = names kp P k := by
  simp only [names]
  rw [if_neg]
  intro ⟨a, b⟩
  exact b (h a)

theorem names_length_le {α : Type} [DecidableEq α] (kp : Nat → Bool) (P : Nat → α) (k : Nat) : (names kp P k).length ≤ k := by
  induction k with
  | zero => simp [names]
  | succ k ih =>
    by_cases h : kp k = true ∧ P k ∉ names kp P k
    · rw [names_new h.1 h.2]; simp; omega
    · rw [names_old (fun h1 => by
        by_cases h2 : P k ∈ names kp P k
        · exact h2
        · exact absurd ⟨h1, h2⟩ h)]
      omega

/-- Every kept one's name is there. -/
theorem names_mem {α : Type} [DecidableEq α] {kp : Nat → Bool} {P : Nat → α} {k i : Nat} (hi : i < k) (h : kp i = true) : P i ∈ names kp P k := by
  induction k with
  | zero => omega
  | succ k ih =>
    by_cases e : i = k
    · subst e
      by_cases h2 : P i ∈ names kp P i
      · rw [names_old (fun _ => h2)]; exact h2
      · rw [names_new h h2]; simp
    · have h1 := ih (by omega)
      by_cases h3 : kp k = true ∧ P k ∉ names kp P k
      · rw [names_new h3.1 h3.2]; simp [h1]
      · rw [names_old (fun h4 => by
          by_cases h2 : P k ∈ names kp P k
          · exact h2
          · exact absurd ⟨h4, h2⟩ h3)]
        exact h1

/-- .. and each name is a kept one's. -/
theorem names_of_mem {α : Type} [DecidableEq α] {kp : Nat → Bool} {P : Nat → α} {k : Nat} {a : α} (h : a ∈ names kp P k) : ∃ i, i < k ∧ kp i = true ∧ P i = a := by
  induction k with
  | zero => simp [names] at h
  | succ k ih =>
    by_cases h3 : kp k = true ∧ P k ∉ names kp P k
    · rw [names_new h3.1 h3.2] at h
      rcases List.mem_append.1 h with h1 | h1
      · obtain ⟨i, a, b, c⟩ := ih h1
        exact ⟨i, by omega, b, c⟩
      · have e : a = P k := by simpa using h1
        exact ⟨k, by omega, h3.1, e.symm⟩
    · rw [names_old (fun h4 => by
        by_cases h2 : P k ∈ names kp P k
        · exact h2
        · exact absurd ⟨h4, h2⟩ h3)] at h
      obtain ⟨i, a, b, c⟩ := ih h
      exact ⟨i, by omega, b, c⟩

theorem names_nodup {α : Type} [DecidableEq α] (kp : Nat → Bool) (P : Nat → α) (k : Nat) : (names kp P k).Nodup := by
  induction k with
  | zero => simp [names]
  | succ k ih =>
    by_cases h3 : kp k = true ∧ P k ∉ names kp P k
    · rw [names_new h3.1 h3.2, List.nodup_append]
      refine ⟨ih, by simp, fun a ha b hb => ?_⟩
      have : b = P k := by simpa using hb
      subst this
      intro e
      subst e
      exact h3.2 ha
    · rw [names_old (fun h4 => by
        by_cases h2 : P k ∈ names kp P k
        · exact h2
        · exact absurd ⟨h4, h2⟩ h3)]
      exact ih

/-- Two places of one name are one. -/
theorem nodup_get {α : Type} {l : List α} (h : l.Nodup) {i j : Nat} {a : α} (hi : l[i]? = some a) (hj : l[j]? = some a) : i = j := by
  have hi' := List.getElem?_eq_some_iff.1 hi
  have hj' := List.getElem?_eq_some_iff.1 hj
  obtain ⟨i1, i2⟩ := hi'
  obtain ⟨j1, j2⟩ := hj'
  exact (List.getElem_inj h).1 (i2.trans j2.symm)

end Go.Proofs.Qxb6603043a.UF
