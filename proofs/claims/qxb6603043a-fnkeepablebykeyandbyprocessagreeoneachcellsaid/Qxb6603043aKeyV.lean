import Derived.Test.Qxb6603043aKeyW
import Derived.Test.Qxb6603043aProcW
namespace Go.Proofs.Qxb6603043a
open Go.RowKit Go.Maps
open UF

/-- Block 'B' is a row of the 'n' values 'f 0' .., each one cell of type 'E', not frozen. -/
def VRow (w : World) (B E n : Nat) (f : Nat → Value) : Prop :=
  ∃ cur : Array Value, w.heap[B]? = some (.cells cur E (0, 0)) ∧ cur.size = n ∧ ∀ i, i < n → cur[i]? = some (f i)

theorem VRow.cell {w : World} {B E n : Nat} {f : Nat → Value} (h : VRow w B E n f) {i : Nat} (hi : i < n) : w.cell? ⟨B, i, none⟩ = some (f i) := by
  obtain ⟨cur, hh, hs, hc⟩ := h
  rw [cell_of_row w B i cur E (0, 0) hh]
  exact hc i hi
theorem VRow.free {w : World} {B E n : Nat} {f : Nat → Value} (h : VRow w B E n f) (i : Nat) : w.frozen? ⟨B, i, none⟩ = false := by
  obtain ⟨cur, hh, _, _⟩ := h
  exact frozen_of_row w B i cur E hh
theorem VRow.lt {w : World} {B E n : Nat} {f : Nat → Value} (h : VRow w B E n f) : B < w.heap.size := by
  obtain ⟨cur, hh, _, _⟩ := h
  exact (Array.getElem?_eq_some_iff.1 hh).1
theorem VRow.set {w : World} {B E n : Nat} {f : Nat → Value} (h : VRow w B E n f) {k : Nat} (hk : k < n) (v : Value) : VRow (w.setCell ⟨B, k, none⟩ v) B E n (upd f k v) := by
  obtain ⟨cur, hh, hs, hc⟩ := h
  refine ⟨_, heap_setCell_same w B k cur E _ hh, by simp [hs], fun i hi => ?_⟩
  rw [Array.getElem?_setIfInBounds]
  by_cases e : k = i
  · subst e
    simp [hs, hk, upd_same]
  · rw [if_neg e, upd_other _ _ (fun e2 => e e2.symm)]
    exact hc i hi
theorem VRow.congr {w : World} {B E n : Nat} {f g : Nat → Value} (h : VRow w B E n f) (hg : ∀ i, i < n → f i = g i) : VRow w B E n g := by
  obtain ⟨cur, hh, hs, hc⟩ := h
  exact ⟨cur, hh, hs, fun i hi => by rw [← hg i hi]; exact hc i hi⟩
theorem VRow.kept {w w' : World} {B E n : Nat} {f : Nat → Value} {row : Option Nat} (h : VRow w B E n f) (hg : w.grownBy w' row) (hne : some B ≠ row) : VRow w' B E n f := by
  have hb := hg.block B h.lt hne
  obtain ⟨cur, hh, hs, hc⟩ := h
  exact ⟨cur, hb.trans hh, hs, hc⟩
theorem VRow.drew {w : World} {B E n : Nat} {f : Nat → Value} (h : VRow w B E n f) : VRow w.drew B E n f := h

/-- The first stage: the index, each operation's key's place, and how many each key has. -/
structure SK (w0 : World) (n m mb kb cb : Nat) (F : ByteArray → Option Nat) (kf cf : Nat → Int) (w : World) : Prop where
  ix : MapIs w 42 mb m litS F
  kr : IntRow w kb n kf
  cr : IntRow w cb m cf
  bel : Below w0.heap.size w0 w
  o1 : w0.heap.size ≤ mb
  o2 : mb < kb
  o3 : kb < cb

theorem SK.grow {w0 : World} {n m mb kb cb : Nat} {F : ByteArray → Option Nat} {kf cf : Nat → Int} {w w' : World} (h : SK w0 n m mb kb cb F kf cf w) (hg : w.grownBy w' none) : SK w0 n m mb kb cb F kf cf w' :=
  ⟨h.ix.kept hg (fun e => by cases e), h.kr.kept hg (fun e => by cases e), h.cr.kept hg (fun e => by cases e), h.bel.grown hg (Nat.le_of_lt (Nat.lt_of_le_of_lt h.o1 h.ix.lt)) (fun k e => by cases e), h.o1, h.o2, h.o3⟩

theorem SK.setk {w0 : World} {n m mb kb cb : Nat} {F : ByteArray → Option Nat} {kf cf : Nat → Int} {w : World} (h : SK w0 n m mb kb cb F kf cf w) {i : Nat} (hi : i < n) (v : Int) : SK w0 n m mb kb cb F (upd kf i v) cf (w.setCell ⟨kb, i, none⟩ (.int .i64 v)) := by
  have g := grown_setCell w kb i (.int .i64 v)
  have o1 := h.o1; have o2 := h.o2; have o3 := h.o3
  exact ⟨h.ix.kept g (ne_some (by omega)), h.kr.set hi v, h.cr.kept g (ne_some (by omega)), h.bel.setCell (p := ⟨kb, i, none⟩) (by show w0.heap.size ≤ kb; omega) _, o1, o2, o3⟩

theorem SK.setc {w0 : World} {n m mb kb cb : Nat} {F : ByteArray → Option Nat} {kf cf : Nat → Int} {w : World} (h : SK w0 n m mb kb cb F kf cf w) {i : Nat} (hi : i < m) (v : Int) : SK w0 n m mb kb cb F kf (upd cf i v) (w.setCell ⟨cb, i, none⟩ (.int .i64 v)) := by
  have g := grown_setCell w cb i (.int .i64 v)
  have o1 := h.o1; have o2 := h.o2; have o3 := h.o3
  exact ⟨h.ix.kept g (ne_some (by omega)), h.kr.kept g (ne_some (by omega)), h.cr.set hi v, h.bel.setCell (p := ⟨cb, i, none⟩) (by show w0.heap.size ≤ cb; omega) _, o1, o2, o3⟩

/-- The groups as they lie: the row 'rb' of slices into the one array 'ab'. -/
def offA (cnt : Nat → Nat) (j : Nat) : Nat := if cnt j = 0 then 0 else sumTo cnt j * 11
def sliceA (ab : Nat) (cnt : Nat → Nat) (j len : Nat) : Value := .slice (some ⟨ab, offA cnt j, none⟩) len (cnt j)

/-- The one array: of each group the first ones are there. -/
def AllB (w : World) (ab tot m : Nat) (cnt : Nat → Nat) (L : Nat → List Nat) (X : Nat → B1) : Prop :=
  ∃ cur : Array Value, w.heap[ab]? = some (.cells cur 50 (0, 0)) ∧ cur.size = tot * 11 ∧ ∀ j, j < m → ∀ t i : Nat, (L j)[t]? = some i → ∀ u v, (cellsOp (X i))[u]? = some v → cur[(sumTo cnt j + t) * 11 + u]? = some v

theorem AllB.kept {w w' : World} {ab tot m : Nat} {cnt : Nat → Nat} {L : Nat → List Nat} {X : Nat → B1} {row : Option Nat} (h : AllB w ab tot m cnt L X) (hg : w.grownBy w' row) (hne : some ab ≠ row) : AllB w' ab tot m cnt L X := by
  obtain ⟨cur, hh, hs, hc⟩ := h
  exact ⟨cur, (hg.block ab (Array.getElem?_eq_some_iff.1 hh).1 hne).trans hh, hs, hc⟩
theorem AllB.lt {w : World} {ab tot m : Nat} {cnt : Nat → Nat} {L : Nat → List Nat} {X : Nat → B1} (h : AllB w ab tot m cnt L X) : ab < w.heap.size := by
  obtain ⟨cur, hh, _, _⟩ := h
  exact (Array.getElem?_eq_some_iff.1 hh).1
theorem AllB.congr {w : World} {ab tot m : Nat} {cnt : Nat → Nat} {L L' : Nat → List Nat} {X : Nat → B1} (h : AllB w ab tot m cnt L X) (hl : ∀ j, j < m → L j = L' j) : AllB w ab tot m cnt L' X := by
  obtain ⟨cur, hh, hs, hc⟩ := h
  exact ⟨cur, hh, hs, fun j hj t i ht u v hv => hc j hj t i (by rw [hl j hj]; exact ht) u v hv⟩
theorem AllB.spare {w : World} {ab tot m : Nat} {cnt : Nat → Nat} {L : Nat → List Nat} {X : Nat → B1} (h : AllB w ab tot m cnt L X) {a : Nat} (ha : a < tot * 11) : (w.cell? ⟨ab, a, none⟩).isSome = true ∧ w.frozen? ⟨ab, a, none⟩ = false := by
  obtain ⟨cur, hh, hs, _⟩ := h
  refine ⟨?_, frozen_of_row w ab a cur 50 hh⟩
  rw [cell_of_row w ab a cur 50 (0, 0) hh, Array.getElem?_eq_getElem (by omega)]
  rfl

theorem AllB.app {w : World} {ab tot m : Nat} {cnt : Nat → Nat} {L : Nat → List Nat} {X : Nat → B1} (h : AllB w ab tot m cnt L X) (hlen : ∀ j, j < m → (L j).length ≤ cnt j) (htot : sumTo cnt m = tot) {q i : Nat} (hq : q < m) (hl : (L q).length < cnt q) :
    AllB (w.setCells ab (sumTo cnt q * 11 + (L q).length * 11) (cellsOp (X i))) ab tot m cnt (upd L q (L q ++ [i])) X := by
  obtain ⟨cur, hh, hs, hc⟩ := h
  obtain ⟨cur', h1, h2, h3, h4⟩ := setCells_block ab 50 (cellsOp (X i)) (sumTo cnt q * 11 + (L q).length * 11) w cur hh
  have hc11 : (cellsOp (X i)).length = 11 := rfl
  have hq1 := sumTo_mono cnt (show q + 1 ≤ m by omega)
  simp only [sumTo] at hq1
  refine ⟨cur', h1, by omega, fun j hj t i' ht u v hv => ?_⟩
  have hu : u < 11 := by have := (List.getElem?_eq_some_iff.1 hv).1; simpa [cellsOp] using this
  by_cases e : j = q
  · subst e
    rw [upd_same] at ht
    rcases Nat.lt_or_ge t (L j).length with g | g
    · rw [List.getElem?_append_left g] at ht
      rw [h3 _ (by omega)]
      exact hc j hj t i' ht u v hv
    · have ht2 : t < (L j ++ [i]).length := (List.getElem?_eq_some_iff.1 ht).1
      simp at ht2
      have et : t = (L j).length := by omega
      subst et
      simp at ht
      subst ht
      have := h4 u (by omega) (by omega)
      rw [show (sumTo cnt j + (L j).length) * 11 + u = sumTo cnt j * 11 + (L j).length * 11 + u from by omega, this]
      exact hv
  · rw [upd_other _ _ e] at ht
    have htl : t < (L j).length := (List.getElem?_eq_some_iff.1 ht).1
    have hlj := hlen j hj
    rw [h3 _ (by
      rcases Nat.lt_or_ge j q with g | g
      · have := sumTo_mono cnt (show j + 1 ≤ q by omega)
        simp only [sumTo] at this
        omega
      · have := sumTo_mono cnt (show q + 1 ≤ j by omega)
        simp only [sumTo] at this
        omega)]
    exact hc j hj t i' ht u v hv

/-- The groups by key, as the call hands them back. -/
def GrpsK (w : World) (a : Option Addr) (m : Nat) (L : Nat → List Nat) (X : Nat → B1) : Prop :=
  ∀ j, j < m → ∃ pg sa sc, a = some ⟨pg, 0, none⟩ ∧ w.cell? ⟨pg, j, none⟩ = some (.slice sa (L j).length sc) ∧ OpsV w sa (L j) X

theorem GrpsK.below {w w' : World} {a : Option Addr} {m : Nat} {L : Nat → List Nat} {X : Nat → B1} (h : GrpsK w a m L X) (hb : Below w.heap.size w w') : GrpsK w' a m L X := by
  intro j hj
  obtain ⟨pg, sa, sc, e, h1, h2⟩ := h j hj
  exact ⟨pg, sa, sc, e, (hb.cell (p := ⟨pg, j, none⟩) (World.block_lt_of_cell? _ _ h1)).trans h1, h2.below hb⟩

theorem grpsK_of {w : World} {ab rb tot m : Nat} {cnt : Nat → Nat} {L : Nat → List Nat} {X : Nat → B1} (hr : VRow w rb 32 m (fun j => sliceA ab cnt j (L j).length)) (ha : AllB w ab tot m cnt L X) (hc : ∀ j, j < m → cnt j = (L j).length) : GrpsK w (some ⟨rb, 0, none⟩) m L X := by
  intro j hj
  refine ⟨rb, some ⟨ab, offA cnt j, none⟩, cnt j, rfl, hr.cell hj, fun hp => ⟨ab, offA cnt j, ha.lt, rfl, fun t i ht u v hv => ?_⟩⟩
  have hlt := ha.lt
  obtain ⟨cur, hh, hs, hcc⟩ := ha
  have := hcc j hj t i ht u v hv
  have e : offA cnt j = sumTo cnt j * 11 := by unfold offA; rw [if_neg (by rw [hc j hj]; omega)]
  rw [cell_of_row w ab _ cur 50 (0, 0) hh, e, show sumTo cnt j * 11 + t * 11 + u = (sumTo cnt j + t) * 11 + u from by omega]
  exact this

theorem run_make32 (n : Nat) (hn : n ≤ 1048576) (w : World) : (Instr.makeSlice 32 (.int .i64 0) (.int .i64 (n : Int))).run Try.prog w = .ok (.slice (some ⟨w.heap.size, 0, none⟩) 0 n) (w.alloc (.cells (madeCells (cellsOp ⟨0, ByteArray.empty, 0, 0, 0, 0, 0⟩).toArray (n * 11)) 50)) := by
  obtain ⟨i, hi, hzz⟩ := Option.map_eq_some_iff.1 info50
  simp only [Prod.mk.injEq] at hzz
  obtain ⟨hz, hs, hb⟩ := hzz
  have hr := run_make (P := Try.prog) w 32 50 i _ Try.underlying32 hi hz .i64 .i64 0 n (by omega) (by omega) (by rw [hb]; omega) (by omega)
  simp only [Int.toNat_natCast, hs, Int.toNat_zero] at hr
  exact hr

theorem run_slice3 (ab tot : Nat) (cnt : Nat → Nat) (j : Nat) (s c : Int) (hs : s = (sumTo cnt j : Int)) (hc : c = ((sumTo cnt j + cnt j : Nat) : Int)) (ht : sumTo cnt j + cnt j ≤ tot) (w : World) :
    (Instr.slice 32 (.slice (some ⟨ab, 0, none⟩) 0 tot) (some (.int .i64 s)) (some (.int .i64 s)) (some (.int .i64 c))).run Try.prog w = .ok (sliceA ab cnt j 0) w := by
  obtain ⟨i, hi, hzz⟩ := Option.map_eq_some_iff.1 info50
  simp only [Prod.mk.injEq] at hzz
  obtain ⟨hz, hsz, hb⟩ := hzz
  have hsz' : ∀ w, (sizeOf 50).run Try.prog w = .ok 11 w := fun w => by simp [sizeOf, typeInfo, hi, hsz, go_sem]
  unfold sliceA offA
  generalize sumTo cnt j = S at *
  generalize cnt j = C at *
  have b1 : 0 ≤ c ∧ c ≤ (tot : Int) := by omega
  have b2 : 0 ≤ s ∧ s ≤ max c 0 := by omega
  have b3 : 0 ≤ s ∧ s ≤ max s 0 := by omega
  have b4 : c.toNat = S + C := by omega
  have b5 : s.toNat = S := by omega
  simp [Instr.slice, run_underlying Try.underlying32, hsz', go_sem]
  rw [if_pos b1, if_pos b2, if_pos b3, b4, b5]
  by_cases h0 : C = 0
  · subst h0
    simp
  · have : ¬ (S + C = S) := by omega
    have e : S + C - S = C := by omega
    simp [h0]

end Go.Proofs.Qxb6603043a
