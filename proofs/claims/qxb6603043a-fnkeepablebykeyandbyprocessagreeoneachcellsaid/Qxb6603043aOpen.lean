/- From the row's own reading of the arguments to the walks' words. -/
import Derived.Test.Qxb6603043aBase
import Derived.Deep.Slices
import Derived.SliceStrings
import Derived.ProofKit
import Derived.OpenShut
namespace Go.Proofs.Qxb6603043a
open Go.RowKit Go.Deep Go.ChangeShapes Go.WideShapes

theorem cells37 : Try.prog.cellsOf 37 = 7 := by kernel_rfl
theorem cells2 : Try.prog.cellsOf 2 = 1 := by kernel_rfl
theorem cells9 : Try.prog.cellsOf 9 = 1 := by kernel_rfl
theorem cells5 : Try.prog.cellsOf 5 = 1 := by kernel_rfl
theorem cells3 : Try.prog.cellsOf 3 = 1 := by kernel_rfl

theorem take1_get {l : List Value} {j : Nat} {v : Value} (h : (l.drop j).take 1 = [v]) : l[j]? = some v := by
  have h1 : ((l.drop j).take 1)[0]? = some v := by rw [h]; rfl
  rw [List.getElem?_take_of_lt (by omega), List.getElem?_drop] at h1
  simpa using h1

theorem plain_of_cell {w : World} {x : Addr} {v : Value} (h : w.cell? x = some v) : x = ⟨x.block, x.off, none⟩ := by
  have := World.cell?_spot h
  cases x
  simp_all

section
variable {H : Type} {enc : TypeId × Value → H} {w : World} {base : Nat} {held : Bool}

theorem seven_of {fuel : Nat} {a : Addr} {cs : List Value} {x : DataW H × List MemPlace} (hc : w.cells? base a 7 = some cs) (h : DataW.trod enc Try.prog w base (fun _ => true) held fuel 37 cs = some x) :
    ∃ b o y, a = ⟨b, o, none⟩ ∧ Seven w b o y ∧ (Lit.int .i64 y.p).wf = true ∧ y.k.size ≤ maxLen := by
  obtain ⟨_, hlen, hcell⟩ := World.cells?_some hc
  obtain ⟨xs, n, _, _, _, hxl, hf⟩ := DataW.trod_struct Try.underlying37 h
  have hxl' : xs.length = 7 := hxl
  have g0 : DataW.trod enc Try.prog w base (fun _ => true) held n 2 ((cs.drop 0).take (Try.prog.cellsOf 2)) = xs[0]? := hf 0 _ rfl
  have g1 : DataW.trod enc Try.prog w base (fun _ => true) held n 9 ((cs.drop 1).take (Try.prog.cellsOf 9)) = xs[1]? := hf 1 _ rfl
  have g2 : DataW.trod enc Try.prog w base (fun _ => true) held n 5 ((cs.drop 2).take (Try.prog.cellsOf 5)) = xs[2]? := hf 2 _ rfl
  have g3 : DataW.trod enc Try.prog w base (fun _ => true) held n 5 ((cs.drop 3).take (Try.prog.cellsOf 5)) = xs[3]? := hf 3 _ rfl
  have g4 : DataW.trod enc Try.prog w base (fun _ => true) held n 3 ((cs.drop 4).take (Try.prog.cellsOf 3)) = xs[4]? := hf 4 _ rfl
  have g5 : DataW.trod enc Try.prog w base (fun _ => true) held n 3 ((cs.drop 5).take (Try.prog.cellsOf 3)) = xs[5]? := hf 5 _ rfl
  have g6 : DataW.trod enc Try.prog w base (fun _ => true) held n 3 ((cs.drop 6).take (Try.prog.cellsOf 3)) = xs[6]? := hf 6 _ rfl
  rw [List.getElem?_eq_getElem (by omega)] at g0 g1 g2 g3 g4 g5 g6
  rw [cells2] at g0
  rw [cells9] at g1
  rw [cells5] at g2 g3
  rw [cells3] at g4 g5 g6
  obtain ⟨y0, k0, _, w0⟩ := DataW.trod_int Try.underlying2 g0
  obtain ⟨y1, k1, _, w1⟩ := DataW.trod_string Try.underlying9 g1
  obtain ⟨y2, k2, _, w2⟩ := DataW.trod_int Try.underlying5 g2
  obtain ⟨y3, k3, _, w3⟩ := DataW.trod_int Try.underlying5 g3
  obtain ⟨y4, k4, _, w4⟩ := DataW.trod_int Try.underlying3 g4
  obtain ⟨y5, k5, _, w5⟩ := DataW.trod_int Try.underlying3 g5
  obtain ⟨y6, k6, _, w6⟩ := DataW.trod_int Try.underlying3 g6
  have c0 := (hcell 0 (by omega)).trans (take1_get k0)
  have c1 := (hcell 1 (by omega)).trans (take1_get k1)
  have c2 := (hcell 2 (by omega)).trans (take1_get k2)
  have c3 := (hcell 3 (by omega)).trans (take1_get k3)
  have c4 := (hcell 4 (by omega)).trans (take1_get k4)
  have c5 := (hcell 5 (by omega)).trans (take1_get k5)
  have c6 := (hcell 6 (by omega)).trans (take1_get k6)
  have e0 : a.add 0 = a := by simp [Addr.add]
  rw [e0] at c0
  have ea := plain_of_cell c0
  generalize a.block = b at ea
  generalize a.off = o at ea
  subst ea
  rw [add_plain] at c1 c2 c3 c4 c5 c6
  exact ⟨b, o, ⟨y0, y1, y2, y3, y4, y5, y6⟩, rfl, ⟨c0, c1, c2, c3, c4, c5, c6⟩, w0, w1⟩

theorem ops_of {fuel : Nat} {a : Option Addr} {len cap : Nat} {x : DataW H × List MemPlace} (h : DataW.trod enc Try.prog w base (fun _ => true) held fuel 22 [.slice a len cap] = some x) :
    ∃ X, Ops w a len X ∧ Fit len X ∧ len ≤ 9223372036854775807 := by
  rcases open_slice Try.underlying22 h with ⟨hcs, _⟩ | ⟨ad, l, c, m, n, D, Pl, hcs, _, hl, hm, hmm, _, hx⟩
  · have : a = none ∧ len = 0 ∧ cap = 0 := by simpa using hcs
    obtain ⟨rfl, rfl, rfl⟩ := this
    exact ⟨fun _ => ⟨0, ByteArray.empty, 0, 0, 0, 0, 0⟩, fun h => by omega, ⟨fun i hi => by omega, fun i hi => by omega⟩, by omega⟩
  · have : a = some ad ∧ len = l ∧ cap = c := by simpa using hcs
    obtain ⟨rfl, rfl, rfl⟩ := this
    rw [maxLen_is] at hm
    have hmc : m = cap := hmm
    obtain ⟨X, hX⟩ := @choose_lt B1 ⟨⟨0, ByteArray.empty, 0, 0, 0, 0, 0⟩⟩ len (fun i y => (∃ b o, ad.add (i * 7) = ⟨b, o, none⟩ ∧ Seven w b o y) ∧ (Lit.int .i64 y.p).wf = true ∧ y.k.size ≤ maxLen) (fun i hi => by
      obtain ⟨cs', h1, h2⟩ := hx i (by omega)
      rw [cells37] at h1
      obtain ⟨b, o, y, e, h3, h4, h5⟩ := seven_of h1 h2
      exact ⟨y, ⟨b, o, e, h3⟩, h4, h5⟩)
    refine ⟨X, fun hp => ?_, ⟨fun i hi => (hX i hi).2.1, fun i hi => (hX i hi).2.2⟩, by omega⟩
    obtain ⟨b, o, e, h3⟩ := (hX 0 hp).1
    have e0 : ad.add (0 * 7) = ad := by simp [Addr.add]
    rw [e0] at e
    subst e
    refine ⟨b, o, World.block_lt_of_cell? _ _ h3.c0, rfl, fun i hi => ?_⟩
    obtain ⟨b', o', e', h4⟩ := (hX i hi).1
    rw [add_plain] at e'
    cases e'
    exact h4

theorem strs_of {fuel : Nat} {a : Option Addr} {len cap : Nat} {x : DataW H × List MemPlace} (h : DataW.trod enc Try.prog w base (fun _ => true) held fuel 23 [.slice a len cap] = some x) :
    ∃ K, Strs w a len K ∧ FitK len K ∧ len ≤ 9223372036854775807 := by
  rcases open_strings Try.underlying23 Try.underlying9 cells9 h with ⟨hcs, _⟩ | ⟨ad, l, c, ss, hcs, _, hl, hm, hz, _, hcell, hsz⟩
  · have : a = none ∧ len = 0 ∧ cap = 0 := by simpa using hcs
    obtain ⟨rfl, rfl, rfl⟩ := this
    exact ⟨fun _ => ByteArray.empty, fun h => by omega, fun i hi => by omega, by omega⟩
  · have : a = some ad ∧ len = l ∧ cap = c := by simpa using hcs
    obtain ⟨rfl, rfl, rfl⟩ := this
    rw [maxLen_is] at hm
    have hz' : ss.length = cap := by simpa using hz
    refine ⟨fun i => ss.getD i ByteArray.empty, fun hp => ?_, fun i hi => ?_, by omega⟩
    · have h0 := hcell 0 (by omega)
      have e0 : ad.add 0 = ad := by simp [Addr.add]
      rw [e0] at h0
      have ea := plain_of_cell h0
      have hlt := World.block_lt_of_cell? _ _ h0
      generalize ad.block = b at ea hlt
      generalize ad.off = o at ea
      subst ea
      refine ⟨b, o, hlt, rfl, fun i hi => ?_⟩
      have := hcell i (by omega)
      rwa [add_plain] at this
    · have hi' : i < ss.length := by omega
      have : ss.getD i ByteArray.empty = ss[i] := by simp [List.getD, hi']
      show (ss.getD i ByteArray.empty).size ≤ maxLen
      rw [this]
      exact hsz _ (List.getElem_mem hi')

end

end Go.Proofs.Qxb6603043a
