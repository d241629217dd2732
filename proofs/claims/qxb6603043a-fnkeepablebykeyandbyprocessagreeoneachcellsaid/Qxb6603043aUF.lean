/- The plain law of the separate parts: a forest of roots, and the labelling that it comes to. No Go in sight. -/
namespace Go.Proofs.Qxb6603043a.UF

/-- Joined by whatever respects 'adj' on the first 'n'. -/
def Conn (n : Nat) (adj : Nat → Nat → Prop) (i j : Nat) : Prop := ∀ f : Nat → Nat, (∀ a b, a < n → b < n → adj a b → f a = f b) → f i = f j

theorem Conn.refl {n : Nat} {adj : Nat → Nat → Prop} (i : Nat) : Conn n adj i i := fun _ _ => rfl
theorem Conn.symm {n : Nat} {adj : Nat → Nat → Prop} {i j : Nat} (h : Conn n adj i j) : Conn n adj j i := fun f hf => (h f hf).symm
theorem Conn.trans {n : Nat} {adj : Nat → Nat → Prop} {i j k : Nat} (h : Conn n adj i j) (h' : Conn n adj j k) : Conn n adj i k := fun f hf => (h f hf).trans (h' f hf)
theorem Conn.of_adj {n : Nat} {adj : Nat → Nat → Prop} {i j : Nat} (hi : i < n) (hj : j < n) (h : adj i j) : Conn n adj i j := fun _ hf => hf i j hi hj h

/-- 'L' gives each the least of its component. -/
structure IsLab (n : Nat) (adj : Nat → Nat → Prop) (L : Nat → Nat) : Prop where
  le : ∀ i, i < n → L i ≤ i
  conn : ∀ i, i < n → Conn n adj i (L i)
  adj : ∀ i j, i < n → j < n → adj i j → L i = L j

theorem IsLab.unique {n : Nat} {adj : Nat → Nat → Prop} {L L' : Nat → Nat} (h : IsLab n adj L) (h' : IsLab n adj L') (i : Nat) (hi : i < n) : L i = L' i := by
  have a := h.le i hi
  have b := h'.le i hi
  have c : L' i = L' (L i) := h.conn i hi L' h'.adj
  have d : L i = L (L' i) := h'.conn i hi L h.adj
  have e := h'.le (L i) (by omega)
  have f := h.le (L' i) (by omega)
  omega

theorem IsLab.idem {n : Nat} {adj : Nat → Nat → Prop} {L : Nat → Nat} (h : IsLab n adj L) (i : Nat) (hi : i < n) : L (L i) = L i :=
  (h.conn i hi L h.adj).symm

/-- 'rt': each one's next on the way to its root; 'R': the root. -/
structure Forest (m : Nat) (rt R : Nat → Nat) : Prop where
  le : ∀ j, j < m → rt j ≤ j
  fix : ∀ j, j < m → rt j = j → R j = j
  step : ∀ j, j < m → R (rt j) = R j
  root : ∀ j, j < m → rt (R j) = R j
  rle : ∀ j, j < m → R j ≤ j

def upd {α : Type} (f : Nat → α) (k : Nat) (v : α) : Nat → α := fun j => if j = k then v else f j
theorem upd_same {α : Type} (f : Nat → α) (k : Nat) (v : α) : upd f k v k = v := by simp [upd]
theorem upd_other {α : Type} (f : Nat → α) {k j : Nat} (v : α) (h : j ≠ k) : upd f k v j = f j := by simp [upd, h]

/-- The path is halved: nothing is rooted otherwise. -/
theorem Forest.halve {m : Nat} {rt R : Nat → Nat} (h : Forest m rt R) {i : Nat} (hi : i < m) (hne : rt i ≠ i) : Forest m (upd rt i (rt (rt i))) R := by
  have l1 := h.le i hi
  have l2 := h.le (rt i) (by omega)
  refine ⟨fun j hj => ?_, fun j hj hf => ?_, fun j hj => ?_, fun j hj => ?_, h.rle⟩
  · by_cases e : j = i
    · subst e; rw [upd_same]; omega
    · rw [upd_other _ _ e]; exact h.le j hj
  · by_cases e : j = i
    · subst e; rw [upd_same] at hf; omega
    · rw [upd_other _ _ e] at hf; exact h.fix j hj hf
  · by_cases e : j = i
    · subst e; rw [upd_same, h.step (rt j) (by omega), h.step j hj]
    · rw [upd_other _ _ e]; exact h.step j hj
  · have hr := h.root j hj
    rw [upd_other]
    · exact hr
    · intro e; rw [e] at hr; exact hne hr

/-- One more, its own root. -/
theorem Forest.push {m : Nat} {rt R : Nat → Nat} (h : Forest m rt R) (rt' : Nat → Nat) (hrt : ∀ j, j < m → rt' j = rt j) (hm : rt' m = m) : Forest (m + 1) rt' (upd R m m) := by
  refine ⟨fun j hj => ?_, fun j hj hf => ?_, fun j hj => ?_, fun j hj => ?_, fun j hj => ?_⟩
  · by_cases e : j = m
    · subst e; omega
    · rw [hrt j (by omega)]; exact h.le j (by omega)
  · by_cases e : j = m
    · subst e; rw [upd_same]
    · rw [upd_other _ _ e]; rw [hrt j (by omega)] at hf; exact h.fix j (by omega) hf
  · by_cases e : j = m
    · subst e; rw [hm]
    · have := h.le j (by omega)
      rw [hrt j (by omega), upd_other _ _ e, upd_other _ _ (by omega)]; exact h.step j (by omega)
  · by_cases e : j = m
    · subst e; rw [upd_same, hm]
    · have := h.rle j (by omega)
      rw [upd_other _ _ e, hrt _ (by omega)]; exact h.root j (by omega)
  · by_cases e : j = m
    · subst e; rw [upd_same]; exact Nat.le_refl _
    · rw [upd_other _ _ e]; exact h.rle j (by omega)

/-- The roots behind a join of the roots 'M' and 'N'. -/
def joinR (R : Nat → Nat) (M N : Nat) : Nat → Nat := fun k => if R k = M then N else R k

theorem Forest.joinMN {m : Nat} {rt R : Nat → Nat} (h : Forest m rt R) {M N : Nat} (hM : M < m) (hle : N ≤ M) (tN : rt N = N) (rM : R M = M) (rN : R N = N) : Forest m (upd rt M N) (joinR R M N) := by
  refine ⟨fun k hk => ?_, fun k hk hf => ?_, fun k hk => ?_, fun k hk => ?_, fun k hk => ?_⟩
  · by_cases e : k = M
    · subst e; rw [upd_same]; exact hle
    · rw [upd_other _ _ e]; exact h.le k hk
  · by_cases e : k = M
    · subst e; rw [upd_same] at hf; simp [joinR, rM, hf]
    · rw [upd_other _ _ e] at hf
      have := h.fix k hk hf
      simp [joinR, this, e]
  · by_cases e : k = M
    · subst e
      rw [upd_same]
      simp [joinR, rM, rN]
    · rw [upd_other _ _ e]
      simp [joinR, h.step k hk]
  · by_cases e : R k = M
    · have : joinR R M N k = N := by simp [joinR, e]
      rw [this]
      by_cases e2 : N = M
      · subst e2; rw [upd_same]
      · rw [upd_other _ _ e2]; exact tN
    · have : joinR R M N k = R k := by simp [joinR, e]
      rw [this, upd_other _ _ e]
      exact h.root k hk
  · have := h.rle k hk
    by_cases e : R k = M
    · simp only [joinR, e, if_true]; omega
    · simp only [joinR, e, if_false]; exact this

/-- Whatever was rooted alike is rooted alike. -/
def Finer (R R' : Nat → Nat) : Prop := ∀ a b, R a = R b → R' a = R' b
theorem Finer.refl (R : Nat → Nat) : Finer R R := fun _ _ h => h
theorem Finer.trans {R R' R'' : Nat → Nat} (h : Finer R R') (h' : Finer R' R'') : Finer R R'' := fun a b e => h' a b (h a b e)
theorem finer_joinR (R : Nat → Nat) (M N : Nat) : Finer R (joinR R M N) := fun a b e => by simp [joinR, e]

/-- What a join of 'i' and 'j' does. -/
theorem Forest.join {m : Nat} {rt R : Nat → Nat} (h : Forest m rt R) {i j : Nat} (hi : i < m) (hj : j < m) :
    Forest m (upd rt (max (R i) (R j)) (min (R i) (R j))) (joinR R (max (R i) (R j)) (min (R i) (R j))) ∧ joinR R (max (R i) (R j)) (min (R i) (R j)) i = joinR R (max (R i) (R j)) (min (R i) (R j)) j := by
  have a1 := h.rle i hi
  have a2 := h.rle j hj
  have b1 := h.root i hi
  have b2 := h.root j hj
  have b3 := h.fix (R i) (by omega) b1
  have b4 := h.fix (R j) (by omega) b2
  have hM : max (R i) (R j) = R i ∨ max (R i) (R j) = R j := by omega
  have hN : min (R i) (R j) = R i ∨ min (R i) (R j) = R j := by omega
  have hc : (R i = max (R i) (R j) ∧ R j = min (R i) (R j)) ∨ (R j = max (R i) (R j) ∧ R i = min (R i) (R j)) := by omega
  have rM : R (max (R i) (R j)) = max (R i) (R j) := by rcases hM with e | e <;> rw [e] <;> assumption
  have rN : R (min (R i) (R j)) = min (R i) (R j) := by rcases hN with e | e <;> rw [e] <;> assumption
  have tN : rt (min (R i) (R j)) = min (R i) (R j) := by rcases hN with e | e <;> rw [e] <;> assumption
  refine ⟨h.joinMN (by omega) (by omega) tN rM rN, ?_⟩
  generalize max (R i) (R j) = M at *
  generalize min (R i) (R j) = N at *
  rcases hc with ⟨e1, e2⟩ | ⟨e1, e2⟩
  · simp only [joinR, e1, e2, if_true]
    split <;> rfl
  · simp only [joinR, e1, e2, if_true]
    split <;> rfl

theorem conn_join {n : Nat} {adj : Nat → Nat → Prop} {m : Nat} {R : Nat → Nat} (hR : ∀ k, k < m → Conn n adj k (R k)) {i j : Nat} (hi : i < m) (hj : j < m) (hij : Conn n adj i j) :
    ∀ k, k < m → Conn n adj k (joinR R (max (R i) (R j)) (min (R i) (R j)) k) := fun k hk => by
  have c1 := hR i hi
  have c2 := hR j hj
  have hc : (R i = max (R i) (R j) ∧ R j = min (R i) (R j)) ∨ (R j = max (R i) (R j) ∧ R i = min (R i) (R j)) := by omega
  by_cases e : R k = max (R i) (R j)
  · have : joinR R (max (R i) (R j)) (min (R i) (R j)) k = min (R i) (R j) := by simp [joinR, e]
    rw [this]
    have ck := hR k hk
    rw [e] at ck
    rcases hc with ⟨e1, e2⟩ | ⟨e1, e2⟩
    · rw [← e2]; rw [← e1] at ck
      exact ck.trans (c1.symm.trans (hij.trans c2))
    · rw [← e2]; rw [← e1] at ck
      exact ck.trans (c2.symm.trans (hij.symm.trans c1))
  · have : joinR R (max (R i) (R j)) (min (R i) (R j)) k = R k := by simp [joinR, e]
    rw [this]
    exact hR k hk

/-- Of the first 'm' those of one name are rooted alike. -/
def Done {α : Type} (m : Nat) (P : Nat → α) (R : Nat → Nat) : Prop := ∀ a b, a < m → b < m → P a = P b → R a = R b

theorem Done.finer {α : Type} {m : Nat} {P : Nat → α} {R R' : Nat → Nat} (h : Done m P R) (hf : Finer R R') : Done m P R' := fun a b ha hb e => hf a b (h a b ha hb e)
theorem Done.mono {α : Type} {m m' : Nat} {P : Nat → α} {R : Nat → Nat} (h : Done m' P R) (hm : m ≤ m') : Done m P R := fun a b ha hb e => h a b (by omega) (by omega) e

/-- The index: which of the first 'm' stands for a name. -/
structure Firsts {α : Type} (m : Nat) (P : Nat → α) (F : α → Option Nat) : Prop where
  hits : ∀ q j, F q = some j → j < m ∧ P j = q
  lacks : ∀ q, F q = none → ∀ j, j < m → P j ≠ q

theorem Firsts.start {α : Type} (P : Nat → α) : Firsts 0 P (fun _ => none) := ⟨fun _ _ h => (by cases h), fun _ _ j hj => by omega⟩

/-- The name is there: behind the join. -/
theorem Done.hit {α : Type} {m : Nat} {P : Nat → α} {R R' : Nat → Nat} {F : α → Option Nat} (h : Done m P R) (hF : Firsts m P F) {j : Nat} (hj : F (P m) = some j) (hf : Finer R R') (he : R' m = R' j) : Done (m + 1) P R' := by
  obtain ⟨j1, j2⟩ := hF.hits _ _ hj
  intro a b ha hb e
  by_cases ea : a = m
  · by_cases eb : b = m
    · rw [ea, eb]
    · rw [ea, he]
      exact hf _ _ (h j b j1 (by omega) (by rw [j2, ← e, ea]))
  · by_cases eb : b = m
    · rw [eb, he]
      exact hf _ _ (h a j (by omega) j1 (by rw [j2, e, eb]))
    · exact hf _ _ (h a b (by omega) (by omega) e)

theorem Firsts.hit {α : Type} {m : Nat} {P : Nat → α} {F : α → Option Nat} (hF : Firsts m P F) {j : Nat} (hj : F (P m) = some j) : Firsts (m + 1) P F := by
  refine ⟨fun q k hk => ?_, fun q hq k hk => ?_⟩
  · obtain ⟨a, b⟩ := hF.hits q k hk
    exact ⟨by omega, b⟩
  · by_cases e : k = m
    · subst e
      intro e2
      rw [e2, hq] at hj
      cases hj
    · exact hF.lacks q hq k (by omega)

/-- The name is new. -/
theorem Done.miss {α : Type} {m : Nat} {P : Nat → α} {R : Nat → Nat} {F : α → Option Nat} (h : Done m P R) (hF : Firsts m P F) (hj : F (P m) = none) : Done (m + 1) P R := by
  intro a b ha hb e
  by_cases ea : a = m
  · by_cases eb : b = m
    · rw [ea, eb]
    · exact absurd (by rw [← e, ea]) (hF.lacks _ hj b (by omega))
  · by_cases eb : b = m
    · exact absurd (by rw [e, eb]) (hF.lacks _ hj a (by omega))
    · exact h a b (by omega) (by omega) e

theorem Firsts.miss {α : Type} [DecidableEq α] {m : Nat} {P : Nat → α} {F : α → Option Nat} (hF : Firsts m P F) : Firsts (m + 1) P (fun q => if q = P m then some m else F q) := by
  refine ⟨fun q k hk => ?_, fun q hq k hk => ?_⟩
  · by_cases e : q = P m
    · simp [e] at hk
      subst hk
      exact ⟨by omega, e.symm⟩
    · simp [e] at hk
      obtain ⟨a, b⟩ := hF.hits q k hk
      exact ⟨by omega, b⟩
  · by_cases e : q = P m
    · simp [e] at hq
    · simp [e] at hq
      by_cases ek : k = m
      · subst ek
        exact fun e2 => e e2.symm
      · exact hF.lacks q hq k (by omega)

theorem isLab_of {α β : Type} {n : Nat} {P : Nat → α} {Q : Nat → β} {rt R : Nat → Nat} (h : Forest n rt R) (hc : ∀ k, k < n → Conn n (fun a b => P a = P b ∨ Q a = Q b) k (R k)) (hp : Done n P R) (hq : Done n Q R) :
    IsLab n (fun a b => P a = P b ∨ Q a = Q b) R :=
  ⟨h.rle, hc, fun i j hi hj e => e.elim (hp i j hi hj) (hq i j hi hj)⟩

end Go.Proofs.Qxb6603043a.UF
