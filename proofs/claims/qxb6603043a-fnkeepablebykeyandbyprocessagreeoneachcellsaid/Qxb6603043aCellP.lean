/- Plain law of the cells: one key's group cut to a process, and that process's group cut to the key. -/
import Derived.Test.Qxb6603043aKeyS
import Derived.Test.Qxb6603043aIsK
namespace Go.Proofs.Qxb6603043a
open UF

theorem drop_nil {f : Nat → Bool} {L : List Nat} {i : Nat} (h : L.length ≤ i) : (L.drop i).filter f = [] := by
  rw [List.drop_eq_nil_of_le h]
  rfl
theorem drop_skip {f : Nat → Bool} {L : List Nat} {i a : Nat} (h : L[i]? = some a) (hf : f a = false) : (L.drop i).filter f = (L.drop (i + 1)).filter f := by
  obtain ⟨hl, e⟩ := List.getElem?_eq_some_iff.1 h
  rw [List.drop_eq_getElem_cons hl, e, List.filter_cons, if_neg (by rw [hf]; simp)]
theorem drop_hit {f : Nat → Bool} {L : List Nat} {i a : Nat} (h : L[i]? = some a) (hf : f a = true) : (L.drop i).filter f = a :: (L.drop (i + 1)).filter f := by
  obtain ⟨hl, e⟩ := List.getElem?_eq_some_iff.1 h
  rw [List.drop_eq_getElem_cons hl, e, List.filter_cons, if_pos hf]

theorem both_hit {f g : Nat → Bool} {L1 L2 : List Nat} {i j : Nat} (h : (L1.drop i).filter f = (L2.drop j).filter g) (hi : ∀ a, L1[i]? = some a → f a = true) (hj : ∀ a, L2[j]? = some a → g a = true) (hor : i < L1.length ∨ j < L2.length) :
    ∃ a, L1[i]? = some a ∧ L2[j]? = some a ∧ (L1.drop (i + 1)).filter f = (L2.drop (j + 1)).filter g := by
  rcases Nat.lt_or_ge i L1.length with h1 | h1
  · have e1 : L1[i]? = some L1[i] := List.getElem?_eq_getElem h1
    rw [drop_hit e1 (hi _ e1)] at h
    rcases Nat.lt_or_ge j L2.length with h2 | h2
    · have e2 : L2[j]? = some L2[j] := List.getElem?_eq_getElem h2
      rw [drop_hit e2 (hj _ e2)] at h
      simp only [List.cons.injEq] at h
      exact ⟨L1[i], e1, by rw [h.1]; exact e2, h.2⟩
    · rw [drop_nil h2] at h
      cases h
  · rcases hor with h2 | h2
    · omega
    · have e2 : L2[j]? = some L2[j] := List.getElem?_eq_getElem h2
      rw [drop_nil h1, drop_hit e2 (hj _ e2)] at h
      cases h

theorem cell_start (X : Nat → B1) (key : ByteArray) (p : Int) (n : Nat) : (filt (prK X key) n).filter (fun i => (X i).p == p) = (filt (prP X p) n).filter (fun i => decide ((X i).k = key)) := by
  unfold filt
  rw [List.filter_filter, List.filter_filter]
  congr 1
  funext i
  unfold prK prP
  cases keepB (X i) <;> cases ((X i).p == p) <;> cases decide ((X i).k = key) <;> rfl

/-- Where a number first stands in a list. -/
def place : List Int → Int → Nat
  | [], _ => 0
  | a :: l, p => if a = p then 0 else place l p + 1

theorem place_get : ∀ (l : List Int) (p : Int), p ∈ l → l[place l p]? = some p
  | [], p, h => by simp at h
  | a :: l, p, h => by
    by_cases e : a = p
    · subst e
      simp [place]
    · have h1 : p ∈ l := by
        rcases List.mem_cons.1 h with h2 | h2
        · exact absurd h2.symm e
        · exact h2
      have h2 := place_get l p h1
      unfold place
      rw [if_neg e, List.getElem?_cons_succ]
      exact h2

theorem names_sum (X : Nat → B1) (n : Nat) : sumTo (lP X (names (kB X) (pB X) n) n) (names (kB X) (pB X) n).length = (filt (kB X) n).length := by
  have hex : ∃ kap : Nat → Nat, ∀ i, i < n → kB X i = true → (names (kB X) (pB X) n)[kap i]? = some (pB X i) :=
    ⟨fun i => place (names (kB X) (pB X) n) (pB X i), fun i hi hk => place_get _ _ (names_mem hi hk)⟩
  obtain ⟨kap, hkap⟩ := hex
  rw [← sum_groups (kB X) kap (names (kB X) (pB X) n).length n (fun i hi hk => (List.getElem?_eq_some_iff.1 (hkap i hi hk)).1)]
  refine sumTo_congr (fun q hq => ?_)
  unfold lP
  congr 1
  refine filt_congr (fun i hi => ?_)
  unfold prP prG
  show (kB X i && _) = (kB X i && _)
  cases hk : kB X i with
  | false => rfl
  | true =>
    have h1 := hkap i hi hk
    have h2 : (names (kB X) (pB X) n)[q]? = some ((names (kB X) (pB X) n).getD q 0) := by simp [List.getD, hq]
    show ((X i).p == (names (kB X) (pB X) n).getD q 0) = (kap i == q)
    by_cases e : kap i = q
    · subst e
      rw [h1] at h2
      have h3 := Option.some.inj h2
      rw [← h3]
      simp [pB]
    · have h3 : (X i).p ≠ (names (kB X) (pB X) n).getD q 0 := fun e2 => by
        have e3 : pB X i = (names (kB X) (pB X) n).getD q 0 := e2
        rw [← e3] at h2
        exact e (nodup_get (names_nodup _ _ _) h1 h2)
      have h4 : (kap i == q) = false := by rw [beq_eq_false_iff_ne]; exact e
      have h5 : ((X i).p == (names (kB X) (pB X) n).getD q 0) = false := by rw [beq_eq_false_iff_ne]; exact h3
      rw [h4, h5]

/-- A named process's group has a first one, and it is of that process. -/
theorem names_first {X : Nat → B1} {n q : Nat} {p : Int} (h : (names (kB X) (pB X) n)[q]? = some p) : 0 < (filt (prP X p) n).length ∧ ∃ i, (filt (prP X p) n)[0]? = some i ∧ (X i).p = p := by
  obtain ⟨i, hi, hk, e⟩ := names_of_mem (List.mem_of_getElem? h)
  have hm : i ∈ filt (prP X p) n := mem_filt.2 ⟨hi, by
    have hk' : keepB (X i) = true := hk
    have e' : (X i).p = p := e
    simp [prP, hk', e']⟩
  have hl := List.length_pos_of_mem hm
  refine ⟨hl, (filt (prP X p) n)[0], List.getElem?_eq_getElem hl, ?_⟩
  have := (mem_filt.1 (List.getElem_mem hl)).2
  unfold prP at this
  simp only [Bool.and_eq_true, beq_iff_eq] at this
  exact this.2

end Go.Proofs.Qxb6603043a
