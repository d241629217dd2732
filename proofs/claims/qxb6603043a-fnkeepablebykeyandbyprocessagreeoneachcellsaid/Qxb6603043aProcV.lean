import Derived.Test.Qxb6603043aIsP
import Derived.Test.Qxb6603043aSepV
namespace Go.Proofs.Qxb6603043a
open Go.RowKit Go.Maps
open UF

theorem info32 : (Try.prog.info? 32).map (fun i => (i.zero, i.size, i.bytes)) = some (some (.slice none 0 0), 1, 24) := by kernel_rfl

def kB (X : Nat → B1) (i : Nat) : Bool := keepB (X i)
def pB (X : Nat → B1) (i : Nat) : Int := (X i).p

/-- The cells of a list of operations. -/
def flat (X : Nat → B1) (L : List Nat) : List Value := L.flatMap (fun i => cellsOp (X i))

theorem flat_length (X : Nat → B1) : ∀ L : List Nat, (flat X L).length = L.length * 11
  | [] => rfl
  | i :: L => by
    have := flat_length X L
    simp only [flat, List.flatMap_cons, List.length_append, List.length_cons] at this ⊢
    rw [this]
    show 11 + _ = _
    omega

theorem flat_get (X : Nat → B1) : ∀ (L : List Nat) (j i t : Nat) (v : Value), L[j]? = some i → (cellsOp (X i))[t]? = some v → (flat X L)[j * 11 + t]? = some v
  | [], _, _, _, _, h, _ => by simp at h
  | a :: L, 0, i, t, v, h, hv => by
    have e : a = i := by simpa using h
    subst e
    have ht : t < (cellsOp (X a)).length := (List.getElem?_eq_some_iff.1 hv).1
    simp only [flat, List.flatMap_cons]
    rw [List.getElem?_append_left (by omega)]
    simpa using hv
  | a :: L, j + 1, i, t, v, h, hv => by
    have h' : L[j]? = some i := by simpa using h
    have := flat_get X L j i t v h' hv
    simp only [flat, List.flatMap_cons] at this ⊢
    have hl : (cellsOp (X a)).length = 11 := rfl
    rw [List.getElem?_append_right (by omega), hl, show (j + 1) * 11 + t - 11 = j * 11 + t from by omega]
    exact this

theorem flat_snoc (X : Nat → B1) (L : List Nat) (i : Nat) : flat X (L ++ [i]) = flat X L ++ cellsOp (X i) := by simp [flat]

/-- What the groups of the names 'N' hold of the first 'k'. -/
def lP (X : Nat → B1) (N : List Int) (k q : Nat) : Nat := (filt (prP X (N.getD q 0)) k).length
def gP (X : Nat → B1) (N : List Int) (k q : Nat) : List Value := flat X (filt (prP X (N.getD q 0)) k)

/-- The groups as the call hands them back. -/
def GrpsP (w : World) (a : Option Addr) (N : List Int) (n : Nat) (X : Nat → B1) : Prop :=
  ∀ q p, N[q]? = some p → ∃ pg sa sc, a = some ⟨pg, 0, none⟩ ∧ w.cell? ⟨pg, q, none⟩ = some (.slice sa (filt (prP X p) n).length sc) ∧ OpsV w sa (filt (prP X p) n) X

theorem GrpsP.below {w w' : World} {a : Option Addr} {N : List Int} {n : Nat} {X : Nat → B1} (h : GrpsP w a N n X) (hb : Below w.heap.size w w') : GrpsP w' a N n X := by
  intro q p hq
  obtain ⟨pg, sa, sc, e, h1, h2⟩ := h q p hq
  exact ⟨pg, sa, sc, e, (hb.cell (p := ⟨pg, q, none⟩) (World.block_lt_of_cell? _ _ h1)).trans h1, h2.below hb⟩

theorem opsV_of_row {w : World} {base : Nat} {v : Value} {L : List Nat} {X : Nat → B1} (h : w.ownsRow base 50 11 v L.length (flat X L)) : ∃ sa sc, v = .slice sa L.length sc ∧ OpsV w sa L X := by
  rcases h.2 with ⟨e1, e2⟩ | ⟨g, c2, cur, e1, _⟩
  · exact ⟨none, 0, by rw [e1, e2], fun h0 => by omega⟩
  · refine ⟨some ⟨g, 0, none⟩, c2, e1, fun _ => ⟨g, 0, ?_, rfl, fun j i hj t u hu => ?_⟩⟩
    · exact (h.lt g (by rw [e1]; rfl)).2
    · have := h.cells (g := g) (by rw [e1]; rfl) (j * 11 + t) u (flat_get X L j i t u hj hu)
      rwa [Addr.add_mid, ← Nat.add_assoc] at this

theorem Groups.grpsP {w : World} {base cap n : Nat} {a : Option Addr} {N : List Int} {X : Nat → B1} {sp : Nat → Value} (h : Groups w base 32 50 11 (.slice a N.length cap) N.length sp (lP X N n) (gP X N n)) : GrpsP w a N n X := by
  intro q p hq
  have hlt : q < N.length := (List.getElem?_eq_some_iff.1 hq).1
  obtain ⟨pg, pcap, e, _, _⟩ := h.shape (by omega)
  obtain ⟨rfl, rfl⟩ : a = some ⟨pg, 0, none⟩ ∧ cap = pcap := by simpa using e
  have hc := h.cell hlt
  have he := h.each q hlt
  have hp : N.getD q 0 = p := by simp [List.getD, hq]
  unfold lP gP at he
  rw [hp] at he
  obtain ⟨sa, sc, e1, e2⟩ := opsV_of_row he
  exact ⟨pg, sa, sc, rfl, by rw [hc, e1], e2⟩

/-- The index says where each name's group is. -/
def Idx (N : List Int) (F : Int → Option Nat) : Prop := ∀ p q, F p = some q ↔ N[q]? = some p

theorem Idx.start : Idx [] (fun _ => none) := fun p q => by simp
theorem Idx.push {N : List Int} {F : Int → Option Nat} (h : Idx N F) {p : Int} (hp : p ∉ N) : Idx (N ++ [p]) (fun r => if r = p then some N.length else F r) := by
  intro r q
  by_cases e : r = p
  · subst e
    simp only [if_true]
    constructor
    · intro e2
      cases e2
      simp
    · intro h2
      rcases Nat.lt_or_ge q N.length with h3 | h3
      · rw [List.getElem?_append_left h3] at h2
        exact absurd (List.mem_of_getElem? h2) hp
      · have h4 : q < (N ++ [r]).length := (List.getElem?_eq_some_iff.1 h2).1
        simp at h4
        rw [show q = N.length from by omega]
  · simp only [e, if_false]
    rw [h r q]
    rcases Nat.lt_or_ge q N.length with h3 | h3
    · rw [List.getElem?_append_left h3]
    · constructor
      · intro h2
        rw [List.getElem?_eq_none h3] at h2
        cases h2
      · intro h2
        have h4 : q < (N ++ [p]).length := (List.getElem?_eq_some_iff.1 h2).1
        simp at h4
        have h5 : q = N.length := by omega
        subst h5
        simp at h2
        exact absurd h2.symm e

/-- What stands between two steps: the groups of the names 'N', of the first 'k'. -/
structure St3 (w0 : World) (X : Nat → B1) (mb mn : Nat) (N : List Int) (k : Nat) (v : Value) (sp : Nat → Value) (F : Int → Option Nat) (w : World) : Prop where
  m : MapIs w 2 mb mn litI F
  ix : Idx N F
  g : Groups w (mb + 1) 32 50 11 v N.length sp (lP X N k) (gP X N k)
  bel : Below mb w0 w

theorem St3.kept {w0 : World} {X : Nat → B1} {mb mn : Nat} {N : List Int} {k : Nat} {v : Value} {sp : Nat → Value} {F : Int → Option Nat} {w w' : World} (h : St3 w0 X mb mn N k v sp F w) (hb : Below w.heap.size w w') : St3 w0 X mb mn N k v sp F w' := by
  have hg : w.grownBy w' none := ⟨hb.os, hb.tape, hb.output, hb.size, fun k hk _ => hb.block k hk⟩
  have hl := h.m.lt
  exact ⟨h.m.kept hg (fun e => by cases e), h.ix, h.g.kept hg (fun k e => by cases e), h.bel.trans (hb.mono (Nat.le_of_lt hl))⟩

/-- A step over one that is not kept, or that no name of 'N' has. -/
theorem St3.skip {w0 : World} {X : Nat → B1} {mb mn : Nat} {N : List Int} {k : Nat} {v : Value} {sp : Nat → Value} {F : Int → Option Nat} {w : World} (h : St3 w0 X mb mn N k v sp F w) (hk : keepB (X k) = false) : St3 w0 X mb (mn + 1) N (k + 1) v sp F w := by
  have e : ∀ p, filt (prP X p) (k + 1) = filt (prP X p) k := fun p => by
    rw [filt_succ, if_neg]
    simp [prP, hk]
  exact ⟨h.m.mono (Nat.le_succ _), h.ix, h.g.congr (fun q _ => by unfold lP; rw [e]) (fun q _ => by unfold gP; rw [e]), h.bel⟩

/-- A new name. -/
theorem St3.name {w0 : World} {X : Nat → B1} {mb mn : Nat} {N : List Int} {k : Nat} {v : Value} {sp : Nat → Value} {F : Int → Option Nat} {w w1 w2 : World} (h : St3 w0 X mb mn N k v sp F w) {p : Int} (hp : p ∉ N) (hnew : filt (prP X p) k = []) 
    (hm : MapIs w1 2 mb (mn + 1) litI (fun r => if r = p then some N.length else F r)) (hg1 : w.grownBy w1 (some mb)) (o : Obj) {g cap : Nat}
    (hown : w2.ownsRow (mb + 1) 32 1 (.slice (some ⟨g, 0, none⟩) (N.length + 1) cap) (N.length + 1) ((List.range N.length).map sp ++ [.slice none 0 0])) (hgrow : (w1.alloc o).grownBy w2 v.ownBlock) (hat : v.ownBlock = some g ∨ g = w1.heap.size + 1) :
    St3 w0 X mb (mn + 1) (N ++ [p]) k (.slice (some ⟨g, 0, none⟩) (N.length + 1) cap) (upd sp N.length (.slice none 0 0)) (fun r => if r = p then some N.length else F r) w2 := by
  have hl := h.m.lt
  have g0 := (World.grownBy_alloc w1 o v.ownBlock).trans hgrow
  have hvb : some mb ≠ v.ownBlock := fun e => by
    have := (h.g.row.lt mb e.symm).1
    omega
  have hG1 := h.g.kept hg1 (fun k e => by cases e; omega)
  have hs := hg1.size
  refine ⟨hm.kept g0 hvb, h.ix.push hp, ?_, (h.bel.grown hg1 (by omega) (fun k e => by cases e; omega)).grown g0 (by omega) (fun k e => by have := (h.g.row.lt k e).1; omega)⟩
  have hG := hG1.push (World.grownBy_alloc w1 o none) hown hgrow (by simpa using hat)
  have el : (N ++ [p]).length = N.length + 1 := by simp
  have en : ∀ q, q < N.length → (N ++ [p]).getD q 0 = N.getD q 0 := fun q hq => by simp [List.getD, List.getElem?_append_left hq]
  have ep : (N ++ [p]).getD N.length 0 = p := by simp [List.getD]
  rw [el]
  refine hG.congr (fun q hq => ?_) (fun q hq => ?_)
  · by_cases e : q = N.length
    · subst e; rw [upd_same]; unfold lP; rw [ep, hnew]; rfl
    · rw [upd_other _ _ e]; unfold lP; rw [en q (by omega)]
  · by_cases e : q = N.length
    · subst e; rw [upd_same]; unfold gP; rw [ep, hnew]; rfl
    · rw [upd_other _ _ e]; unfold gP; rw [en q (by omega)]

/-- One more of the name at place 'q'. -/
theorem St3.app {w0 : World} {X : Nat → B1} {mb mn : Nat} {N : List Int} {k : Nat} {pg pcap : Nat} {sp : Nat → Value} {F : Int → Option Nat} {w w1 : World} (h : St3 w0 X mb mn N k (.slice (some ⟨pg, 0, none⟩) N.length pcap) sp F w) (hnd : N.Nodup) {q : Nat} (hq : N[q]? = some (X k).p) (hk : keepB (X k) = true) (o : Obj) {g cap : Nat}
    (hown : w1.ownsRow (mb + 1) 50 11 (.slice (some ⟨g, 0, none⟩) (lP X N k q + 1) cap) (lP X N k q + 1) (gP X N k q ++ cellsOp (X k))) (hgrow : (w.alloc o).grownBy w1 (sp q).ownBlock) (hat : (sp q).ownBlock = some g ∨ g = w.heap.size + 1) :
    St3 w0 X mb mn N (k + 1) (.slice (some ⟨pg, 0, none⟩) N.length pcap) (upd sp q (.slice (some ⟨g, 0, none⟩) (lP X N k q + 1) cap)) F (w1.setCell ⟨pg, q, none⟩ (.slice (some ⟨g, 0, none⟩) (lP X N k q + 1) cap)) := by
  have hlt : q < N.length := (List.getElem?_eq_some_iff.1 hq).1
  have hl := h.m.lt
  have g0 := (World.grownBy_alloc w o (sp q).ownBlock).trans hgrow
  have hvb : some mb ≠ (sp q).ownBlock := fun e => by
    have := ((h.g.each q hlt).lt mb e.symm).1
    omega
  have hpg := (h.g.row.lt pg rfl).1
  have g2 : w1.grownBy (w1.setCell ⟨pg, q, none⟩ (.slice (some ⟨g, 0, none⟩) (lP X N k q + 1) cap)) (some pg) := grown_setCell w1 pg q _
  have hG := h.g.app (World.grownBy_alloc w o none) hlt hown hgrow (by simpa using hat)
  have hp : N.getD q 0 = (X k).p := by simp [List.getD, hq]
  have hhit : prP X (X k).p k = true := by simp [prP, hk]
  have hoth : ∀ r, r < N.length → r ≠ q → prP X (N.getD r 0) k = false := fun r hr hne => by
    have h1 : N[r]? = some (N.getD r 0) := by simp [List.getD, hr]
    have h2 : N.getD r 0 ≠ (X k).p := fun e => by
      rw [e] at h1
      exact hne (nodup_get hnd h1 hq)
    have h3 : ((X k).p == N.getD r 0) = false := by rw [beq_eq_false_iff_ne]; exact fun e => h2 e.symm
    unfold prP
    rw [h3]
    simp
  refine ⟨(h.m.kept g0 hvb).kept g2 (ne_some (by omega)), h.ix, hG.congr (fun r hr => ?_) (fun r hr => ?_), (h.bel.grown g0 (by omega) (fun b hb => by have := ((h.g.each q hlt).lt b hb).1; omega)).setCell (p := ⟨pg, q, none⟩) (by show mb ≤ pg; omega) _⟩
  · by_cases e : r = q
    · subst e
      rw [upd_same]
      unfold lP
      rw [hp, filt_succ, if_pos hhit]
      simp
    · rw [upd_other _ _ e]
      unfold lP
      rw [filt_succ, if_neg (by rw [hoth r hr e]; simp)]
  · by_cases e : r = q
    · subst e
      rw [upd_same]
      unfold gP
      rw [hp, filt_succ, if_pos hhit, flat_snoc]
    · rw [upd_other _ _ e]
      unfold gP
      rw [filt_succ, if_neg (by rw [hoth r hr e]; simp)]

end Go.Proofs.Qxb6603043a
