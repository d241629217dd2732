import Derived.Test.Qxb6603043aSep
import Derived.Test.Qxb6603043aParts
namespace Go.Proofs.Qxb6603043a
open Go.RowKit Go.Maps
open UF

theorem info53 : (Try.prog.info? 53).map (fun i => (i.zero, i.size, i.bytes)) = some (some (.slice none 0 0), 1, 24) := by kernel_rfl

theorem Groups.congr {w : World} {base ES E sz : Nat} {pv : Value} {cnt : Nat} {sp : Nat → Value} {ln ln' : Nat → Nat} {G G' : Nat → List Value} (h : Groups w base ES E sz pv cnt sp ln G) (hl : ∀ p, p < cnt → ln p = ln' p) (hG : ∀ p, p < cnt → G p = G' p) : Groups w base ES E sz pv cnt sp ln' G' :=
  ⟨h.row, fun p hp => by rw [← hl p hp, ← hG p hp]; exact h.each p hp, h.apart, h.out⟩

theorem Groups.shape {w : World} {base ES E sz : Nat} {pv : Value} {cnt : Nat} {sp : Nat → Value} {ln : Nat → Nat} {G : Nat → List Value} (h : Groups w base ES E sz pv cnt sp ln G) (hp : 0 < cnt) : ∃ pg cap, pv = .slice (some ⟨pg, 0, none⟩) cnt cap ∧ base ≤ pg ∧ pg < w.heap.size := h.row.form hp

theorem Groups.cell {w : World} {base ES E sz pg pcap : Nat} {cnt : Nat} {sp : Nat → Value} {ln : Nat → Nat} {G : Nat → List Value} (h : Groups w base ES E sz (.slice (some ⟨pg, 0, none⟩) cnt pcap) cnt sp ln G) {p : Nat} (hp : p < cnt) : w.cell? ⟨pg, p, none⟩ = some (sp p) := by
  rw [h.row.cellAt p (by omega)]
  simp [hp]

def lI (R : Nat → Nat) (k p : Nat) : Nat := (partL R k p).length
def gI (R : Nat → Nat) (k p : Nat) : List Value := (partL R k p).map (fun i : Nat => Value.int .i64 (i : Int))

/-- The parts as the call hands them back. -/
def PartsAt (w : World) (a : Option Addr) (n : Nat) (R : Nat → Nat) : Prop :=
  ∀ p, p < num R n → ∃ pg sa sc, a = some ⟨pg, 0, none⟩ ∧ w.cell? ⟨pg, p, none⟩ = some (.slice sa (partL R n p).length sc) ∧
    (0 < (partL R n p).length → ∃ g, sa = some ⟨g, 0, none⟩ ∧ ∀ (j i : Nat), (partL R n p)[j]? = some i → w.cell? ⟨g, j, none⟩ = some (.int .i64 (i : Int)))

theorem PartsAt.below {w w' : World} {a : Option Addr} {n : Nat} {R : Nat → Nat} (h : PartsAt w a n R) (hb : Below w.heap.size w w') : PartsAt w' a n R := by
  intro p hp
  obtain ⟨pg, sa, sc, e, h1, h2⟩ := h p hp
  refine ⟨pg, sa, sc, e, (hb.cell (p := ⟨pg, p, none⟩) (World.block_lt_of_cell? _ _ h1)).trans h1, fun h0 => ?_⟩
  obtain ⟨g, e2, h3⟩ := h2 h0
  exact ⟨g, e2, fun j i hj => (hb.cell (p := ⟨g, j, none⟩) (World.block_lt_of_cell? _ _ (h3 j i hj))).trans (h3 j i hj)⟩

theorem Groups.parts {w : World} {base cap n : Nat} {a : Option Addr} {R : Nat → Nat} {sp : Nat → Value} (h : Groups w base 53 3 1 (.slice a (num R n) cap) (num R n) sp (lI R n) (gI R n)) : PartsAt w a n R := by
  intro p hp
  obtain ⟨pg, pcap, e, _, _⟩ := h.shape (by omega)
  obtain ⟨rfl, rfl⟩ : a = some ⟨pg, 0, none⟩ ∧ cap = pcap := by simpa using e
  have hc := h.cell hp
  have he := h.each p hp
  rcases he.2 with ⟨e1, e2⟩ | ⟨g, c2, cur, e1, _⟩
  · have e2' : (partL R n p).length = 0 := e2
    exact ⟨pg, none, 0, rfl, by rw [hc, e1, e2'], fun h0 => by omega⟩
  · refine ⟨pg, some ⟨g, 0, none⟩, c2, rfl, by rw [hc, e1]; rfl, fun _ => ⟨g, rfl, fun j i hj => ?_⟩⟩
    have := he.cells (g := g) (by rw [e1]; rfl) j (.int .i64 (i : Int)) (by simp [gI, hj])
    rwa [Addr.add_mid, Nat.zero_add] at this

/-- What stands between two rounds of the second loop. -/
structure St2 (w0 : World) (n s nb k : Nat) (R : Nat → Nat) (v : Value) (cnt : Nat) (sp : Nat → Value) (nf : Nat → Int) (kn : Nat) (w : World) : Prop where
  u : UInv w (s + 1 + 1) (s + 1) s n n R w
  g : Groups w (nb + 1) 53 3 1 v cnt sp (lI R k) (gI R k)
  r : IntRow w nb n nf
  f : ∀ j, j < kn → R j = j → nf j = (num R j : Int)
  bel : Below s w0 w

theorem St2.find {w0 : World} {n s nb k : Nat} {R : Nat → Nat} {v : Value} {cnt : Nat} {sp : Nat → Value} {nf : Nat → Int} {kn : Nat} {w w' : World} (h : St2 w0 n s nb k R v cnt sp nf kn w) (hs : s < nb) (hU : UInv w (s + 1 + 1) (s + 1) s n n R w') : St2 w0 n s nb k R v cnt sp nf kn w' :=
  ⟨⟨hU.f, hU.v, hU.ex, Only.refl _ _⟩, h.g.kept hU.only.grown (fun k e => by cases e; omega), h.r.kept hU.only.grown (ne_some (by omega)), h.f, h.bel.trans (hU.only.below (Nat.le_refl _))⟩

theorem St2.number {w0 : World} {n s nb k : Nat} {R : Nat → Nat} {v : Value} {cnt : Nat} {sp : Nat → Value} {nf : Nat → Int} {w : World} (h : St2 w0 n s nb k R v cnt sp nf k w) (hs : s + 1 + 1 < nb) (hk : k < n) : St2 w0 n s nb k R v cnt sp (upd nf k (num R k : Int)) (k + 1) (w.setCell ⟨nb, k, none⟩ (.int .i64 (num R k : Int))) := by
  have g := grown_setCell w nb k (.int .i64 (num R k : Int))
  refine ⟨h.u.kept g (ne_some (by omega)) (ne_some (by omega)) (ne_some (by omega)), h.g.kept g (fun k e => by cases e; omega), h.r.set hk _, fun j hj e => ?_, h.bel.setCell (p := ⟨nb, k, none⟩) (by show s ≤ nb; omega) _⟩
  by_cases ej : j = k
  · subst ej; rw [upd_same]
  · rw [upd_other _ _ ej]; exact h.f j (by omega) e

theorem St2.skip {w0 : World} {n s nb k : Nat} {R : Nat → Nat} {v : Value} {cnt : Nat} {sp : Nat → Value} {nf : Nat → Int} {w : World} (h : St2 w0 n s nb k R v cnt sp nf k w) (hk : R k ≠ k) : St2 w0 n s nb k R v cnt sp nf (k + 1) w :=
  ⟨h.u, h.g, h.r, fun j hj e => h.f j (by
    rcases Nat.lt_or_ge j k with h1 | h1
    · exact h1
    · obtain rfl : j = k := by omega
      exact absurd e hk) e, h.bel⟩

theorem St2.push {w0 : World} {n s nb k : Nat} {R : Nat → Nat} {v : Value} {sp : Nat → Value} {nf : Nat → Int} {kn : Nat} {w w1 : World} (h : St2 w0 n s nb k R v (num R k) sp nf kn w) (hs : s + 1 + 1 < nb) (hR : ∀ i, i < k → R i ≤ i ∧ R (R i) = R i) (o : Obj) {g cap : Nat}
    (hown : w1.ownsRow (nb + 1) 53 1 (.slice (some ⟨g, 0, none⟩) (num R k + 1) cap) (num R k + 1) ((List.range (num R k)).map sp ++ [.slice none 0 0])) (hgrow : (w.alloc o).grownBy w1 v.ownBlock) (hat : v.ownBlock = some g ∨ g = w.heap.size + 1) :
    St2 w0 n s nb k R (.slice (some ⟨g, 0, none⟩) (num R k + 1) cap) (num R k + 1) (upd sp (num R k) (.slice none 0 0)) nf kn w1 := by
  have g0 := World.grownBy_alloc w o v.ownBlock
  have gg := g0.trans hgrow
  have hvb : ∀ b, b ≤ nb → some b ≠ v.ownBlock := fun b hb e => by
    have := (h.g.row.lt b e.symm).1
    omega
  have hlt := h.r.lt
  refine ⟨h.u.kept gg (hvb _ (by omega)) (hvb _ (by omega)) (hvb _ (by omega)), ?_, h.r.kept gg (hvb _ (by omega)), h.f, h.bel.grown gg (by omega) (fun b hb => by have := (h.g.row.lt b hb).1; omega)⟩
  refine (h.g.push (World.grownBy_alloc w o none) hown hgrow (by simpa using hat)).congr (fun p hp => ?_) (fun p hp => ?_)
  · by_cases e : p = num R k
    · rw [e, upd_same]
      simp [lI, partL_new hR (Nat.le_refl _)]
    · rw [upd_other _ _ e]
  · by_cases e : p = num R k
    · rw [e, upd_same]
      simp [gI, partL_new hR (Nat.le_refl _)]
    · rw [upd_other _ _ e]

theorem St2.app {w0 : World} {n s nb k : Nat} {R : Nat → Nat} {pg pcap cnt : Nat} {sp : Nat → Value} {nf : Nat → Int} {kn : Nat} {w w1 : World} (h : St2 w0 n s nb k R (.slice (some ⟨pg, 0, none⟩) cnt pcap) cnt sp nf kn w) (hs : s + 1 + 1 < nb) (hp : num R (R k) < cnt) (o : Obj) {g cap : Nat}
    (hown : w1.ownsRow (nb + 1) 3 1 (.slice (some ⟨g, 0, none⟩) (lI R k (num R (R k)) + 1) cap) (lI R k (num R (R k)) + 1) (gI R k (num R (R k)) ++ [.int .i64 (k : Int)])) (hgrow : (w.alloc o).grownBy w1 (sp (num R (R k))).ownBlock) (hat : (sp (num R (R k))).ownBlock = some g ∨ g = w.heap.size + 1) :
    St2 w0 n s nb (k + 1) R (.slice (some ⟨pg, 0, none⟩) cnt pcap) cnt (upd sp (num R (R k)) (.slice (some ⟨g, 0, none⟩) (lI R k (num R (R k)) + 1) cap)) nf kn (w1.setCell ⟨pg, num R (R k), none⟩ (.slice (some ⟨g, 0, none⟩) (lI R k (num R (R k)) + 1) cap)) := by
  have g0 := World.grownBy_alloc w o (sp (num R (R k))).ownBlock
  have gg := g0.trans hgrow
  have hvb : ∀ b, b ≤ nb → some b ≠ (sp (num R (R k))).ownBlock := fun b hb e => by
    have := ((h.g.each _ hp).lt b e.symm).1
    omega
  have hpg := (h.g.row.lt pg rfl).1
  have g2 := grown_setCell w1 pg (num R (R k)) (.slice (some ⟨g, 0, none⟩) (lI R k (num R (R k)) + 1) cap)
  have hlt := h.r.lt
  have hg := h.g.app (World.grownBy_alloc w o none) hp hown hgrow (by simpa using hat)
  refine ⟨(h.u.kept gg (hvb _ (by omega)) (hvb _ (by omega)) (hvb _ (by omega))).kept g2 (ne_some (by omega)) (ne_some (by omega)) (ne_some (by omega)), ?_, (h.r.kept gg (hvb _ (by omega))).kept g2 (ne_some (by omega)), h.f,
    (h.bel.grown gg (by omega) (fun b hb => by have := ((h.g.each _ hp).lt b hb).1; omega)).setCell (p := ⟨pg, _, none⟩) (by show s ≤ pg; omega) _⟩
  refine hg.congr (fun p _ => ?_) (fun p _ => ?_)
  · unfold lI
    rw [partL_succ]
    by_cases e : p = num R (R k)
    · rw [e, upd_same, if_pos rfl]; simp
    · rw [upd_other _ _ e, if_neg (fun e2 => e e2.symm)]
  · unfold gI
    rw [partL_succ]
    by_cases e : p = num R (R k)
    · rw [e, upd_same, if_pos rfl]; simp
    · rw [upd_other _ _ e, if_neg (fun e2 => e e2.symm)]

end Go.Proofs.Qxb6603043a
