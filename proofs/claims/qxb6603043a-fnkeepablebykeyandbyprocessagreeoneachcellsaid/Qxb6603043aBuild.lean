import Derived.Test.Qxb6603043aBase
import Derived.Deep.OwnRows
import Derived.Lib.SliceRun
import Derived.Deep.RegionHeld3
import Derived.Deep.MidRow
import Derived.Deep.DrawnRows
import Derived.Deep.DeepCutAuto
namespace Go.Proofs.Qxb6603043a
open Go.RowKit

/-- The eleven cells of the history's operation that stands for 'x'. -/
def cellsOp (x : B1) : List Value := [.int .i64 x.p, .string x.k, .int .u8 x.f, .int .i64 0, .bool false, .int .i64 0, .bool false, .int .u8 x.o, .int .i64 x.i, .int .i64 x.c, .int .i64 x.t]

theorem info50 : (Try.prog.info? 50).map (fun i => (i.zero, i.size, i.bytes)) = some (some (.agg (cellsOp ⟨0, ByteArray.empty, 0, 0, 0, 0, 0⟩).toArray), 11, 96) := by kernel_rfl
theorem info42 : (Try.prog.info? 42).map (fun i => (i.zero, i.size, i.bytes)) = some (some (.string ByteArray.empty), 1, 16) := by kernel_rfl

/-- Operation 'x' lies at block 'b' from offset 'o' on. -/
def OpAt (w : World) (b o : Nat) (x : B1) : Prop := ∀ j v, (cellsOp x)[j]? = some v → w.cell? ⟨b, o + j, none⟩ = some v

/-- The slice of the history's operations. -/
def OpsH (w : World) (a : Option Addr) (n : Nat) (X : Nat → B1) : Prop :=
  0 < n → ∃ b, b < w.heap.size ∧ a = some ⟨b, 0, none⟩ ∧ ∀ i, i < n → OpAt w b (i * 11) (X i)

def Half11 (w : World) (B n k : Nat) (X : Nat → B1) : Prop :=
  ∃ cur : Array Value, w.heap[B]? = some (.cells cur 50 (0, 0)) ∧ cur.size = n * 11 ∧ ∀ i, i < k → ∀ j v, (cellsOp (X i))[j]? = some v → cur[i * 11 + j]? = some v

theorem run_make50 (n : Nat) (hn : n ≤ 1048576) (w : World) : (Instr.makeSlice 32 (.int .i64 (n : Int)) (.int .i64 (n : Int))).run Try.prog w = .ok (.slice (some ⟨w.heap.size, 0, none⟩) n n) (w.alloc (.cells (madeCells (cellsOp ⟨0, ByteArray.empty, 0, 0, 0, 0, 0⟩).toArray (n * 11)) 50)) := by
  obtain ⟨i, hi, hzz⟩ := Option.map_eq_some_iff.1 info50
  simp only [Prod.mk.injEq] at hzz
  obtain ⟨hz, hs, hb⟩ := hzz
  have hr := run_make (P := Try.prog) w 32 50 i _ Try.underlying32 hi hz .i64 .i64 n n (by omega) (Int.le_refl _) (by rw [hb]; omega) (by omega)
  simp only [Int.toNat_natCast, hs] at hr
  exact hr

theorem Half11.made (w : World) (c : Array Value) (n : Nat) (X : Nat → B1) : Half11 (w.alloc (.cells (madeCells c (n * 11)) 50)) w.heap.size n 0 X :=
  ⟨_, heap_alloc_new _ _, size_madeCells _ _, fun i hi => by omega⟩

theorem Half11.cell {w : World} {B n k : Nat} {X : Nat → B1} (h : Half11 w B n k X) (j : Nat) (hk : j < n * 11) : ∃ v, w.cell? ⟨B, j, none⟩ = some v := by
  obtain ⟨cur, hh, hs, _⟩ := h
  rw [cell_of_row w B j cur 50 (0, 0) hh]
  exact ⟨cur[j]'(by omega), Array.getElem?_eq_getElem (by omega)⟩

theorem Half11.there {w : World} {B n k : Nat} {X : Nat → B1} (h : Half11 w B n k X) (hk : k < n) : w.there B (k * 11) 11 := fun j hj => by
  obtain ⟨v, hv⟩ := h.cell (k * 11 + j) (by omega)
  obtain ⟨cur, hh, _, _⟩ := h
  exact ⟨by rw [hv]; rfl, frozen_of_row w B _ cur 50 hh⟩

theorem size50 : (Try.prog.info? 50).map (·.size) = some 11 := by kernel_rfl

theorem Half11.free {w : World} {B n k : Nat} {X : Nat → B1} (h : Half11 w B n k X) (j : Nat) : w.frozen? ⟨B, j, none⟩ = false := by
  obtain ⟨cur, hh, _, _⟩ := h
  exact frozen_of_row w B j cur 50 hh

theorem setCells_block (B T : Nat) : ∀ (vs : List Value) (o : Nat) (w : World) (cur : Array Value), w.heap[B]? = some (.cells cur T (0, 0)) → ∃ cur', (w.setCells B o vs).heap[B]? = some (.cells cur' T (0, 0)) ∧ cur'.size = cur.size ∧
    (∀ j, (j < o ∨ o + vs.length ≤ j) → cur'[j]? = cur[j]?) ∧ (∀ j, j < vs.length → o + j < cur.size → cur'[o + j]? = vs[j]?)
  | [], _, _, cur, h => ⟨cur, h, rfl, fun _ _ => rfl, fun j hj => by simp at hj⟩
  | v :: r, o, w, cur, h => by
    obtain ⟨cur', h1, h2, h3, h4⟩ := setCells_block B T r (o + 1) (w.setCell ⟨B, o, none⟩ v) _ (heap_setCell_same w B o cur T v h)
    refine ⟨cur', h1, by simpa using h2, fun j hj => ?_, fun j hj hs => ?_⟩
    · rw [h3 j (by simp at hj; omega), Array.getElem?_setIfInBounds, if_neg (by simp at hj; omega)]
    · rcases j with _ | j
      · rw [h3 (o + 0) (by omega), Array.getElem?_setIfInBounds]
        simp at hs
        simp [hs]
      · have := h4 j (by simpa using hj) (by simp; omega)
        rw [show o + 1 + j = o + (j + 1) from by omega] at this
        rw [this]
        rfl

theorem below_setCells {B : Nat} {a : World} (b : Nat) (hb : B ≤ b) : ∀ (vs : List Value) (o : Nat) (w : World), Below B a w → Below B a (w.setCells b o vs)
  | [], _, _, h => h
  | v :: r, o, _, h => below_setCells b hb r (o + 1) _ (h.setCell (p := ⟨b, o, none⟩) hb v)

theorem Half11.step {w : World} {B n k : Nat} {X : Nat → B1} (h : Half11 w B n k X) (hk : k < n) : Half11 (w.setCells B (k * 11) (cellsOp (X k))) B n (k + 1) X := by
  obtain ⟨cur, hh, hs, hc⟩ := h
  obtain ⟨cur', h1, h2, h3, h4⟩ := setCells_block B 50 (cellsOp (X k)) (k * 11) w cur hh
  have hl : (cellsOp (X k)).length = 11 := rfl
  refine ⟨cur', h1, by omega, fun i hi j v hv => ?_⟩
  have hj : j < 11 := by have := (List.getElem?_eq_some_iff.1 hv).1; simpa [cellsOp] using this
  by_cases e : i = k
  · subst e
    rw [h4 j (by omega) (by omega)]
    exact hv
  · rw [h3 (i * 11 + j) (by omega)]
    exact hc i (by omega) j v hv

theorem Half11.drew {w : World} {B n k : Nat} {X : Nat → B1} (h : Half11 w B n k X) : Half11 w.drew B n k X := h

theorem Half11.opsH {w : World} {B n : Nat} {X : Nat → B1} (h : Half11 w B n n X) : OpsH w (some ⟨B, 0, none⟩) n X := by
  obtain ⟨cur, hh, hs, hc⟩ := h
  refine fun _ => ⟨B, by have := Array.getElem?_eq_some_iff.1 hh; exact this.1, rfl, fun i hi j v hv => ?_⟩
  rw [cell_of_row w B (i * 11 + j) cur 50 (0, 0) hh]
  exact hc i hi j v hv

theorem OpAt.below {w w' : World} {B b o : Nat} {x : B1} (h : OpAt w b o x) (hb : Below B w w') (hlt : b < B) : OpAt w' b o x := fun j v hv =>
  (hb.cell (p := ⟨b, o + j, none⟩) hlt).trans (h j v hv)

theorem OpsH.below {w w' : World} {a : Option Addr} {n : Nat} {X : Nat → B1} (h : OpsH w a n X) (hb : Below w.heap.size w w') : OpsH w' a n X := by
  intro hp
  obtain ⟨b, hlt, rfl, hc⟩ := h hp
  exact ⟨b, Nat.lt_of_lt_of_le hlt hb.size, rfl, fun i hi => (hc i hi).below hb hlt⟩

/-- A store into another block than the operations'. -/
theorem OpsH.setCell {w : World} {a : Option Addr} {n : Nat} {X : Nat → B1} (h : OpsH w a n X) (p : Addr) (v : Value) (hp : ∀ b, a = some ⟨b, 0, none⟩ → b ≠ p.block) : OpsH (w.setCell p v) a n X := by
  intro h0
  obtain ⟨b, hlt, rfl, hc⟩ := h h0
  refine ⟨b, by simpa using hlt, rfl, fun i hi j u hu => ?_⟩
  rw [World.cell?_setCell_other _ _ _ _ (fun e => hp b rfl (by rw [e]))]
  exact hc i hi j u hu

theorem Strs.setCell {w : World} {a : Option Addr} {n : Nat} {K : Nat → ByteArray} (h : Strs w a n K) (p : Addr) (v : Value) (hp : ∀ b off, a = some ⟨b, off, none⟩ → b ≠ p.block) : Strs (w.setCell p v) a n K := by
  intro h0
  obtain ⟨b, off, hlt, rfl, hc⟩ := h h0
  refine ⟨b, off, by simpa using hlt, rfl, fun i hi => ?_⟩
  rw [World.cell?_setCell_other _ _ _ _ (fun e => hp b off rfl (by rw [e]))]
  exact hc i hi

/-- Block 'B' holds the first 'k' of the 'm' strings 'K'. -/
def HalfS (w : World) (B m k : Nat) (K : Nat → ByteArray) : Prop :=
  ∃ cur : Array Value, w.heap[B]? = some (.cells cur 42 (0, 0)) ∧ cur.size = m ∧ ∀ i, i < k → cur[i]? = some (.string (K i))

theorem HalfS.made (w : World) (c : Array Value) (m : Nat) (K : Nat → ByteArray) : HalfS (w.alloc (.cells (madeCells c m) 42)) w.heap.size m 0 K :=
  ⟨_, heap_alloc_new _ _, size_madeCells _ _, fun i hi => by omega⟩
theorem HalfS.cell {w : World} {B m k : Nat} {K : Nat → ByteArray} (h : HalfS w B m k K) (j : Nat) (hk : j < m) : ∃ v, w.cell? ⟨B, j, none⟩ = some v := by
  obtain ⟨cur, hh, hs, _⟩ := h
  rw [cell_of_row w B j cur 42 (0, 0) hh]
  exact ⟨cur[j]'(by omega), Array.getElem?_eq_getElem (by omega)⟩
theorem HalfS.free {w : World} {B m k : Nat} {K : Nat → ByteArray} (h : HalfS w B m k K) (j : Nat) : w.frozen? ⟨B, j, none⟩ = false := by
  obtain ⟨cur, hh, _, _⟩ := h
  exact frozen_of_row w B j cur 42 hh
theorem HalfS.step {w : World} {B m k : Nat} {K : Nat → ByteArray} (h : HalfS w B m k K) (hk : k < m) : HalfS (w.setCell ⟨B, k, none⟩ (.string (K k))) B m (k + 1) K := by
  obtain ⟨cur, hh, hs, hc⟩ := h
  refine ⟨_, heap_setCell_same w B k cur 42 _ hh, by simp [hs], fun i hi => ?_⟩
  rw [Array.getElem?_setIfInBounds]
  by_cases e : k = i
  · subst e
    simp [hs, hk]
  · rw [if_neg e]
    exact hc i (by omega)
theorem HalfS.strs {w : World} {B m : Nat} {K : Nat → ByteArray} (h : HalfS w B m m K) : Strs w (some ⟨B, 0, none⟩) m K := by
  obtain ⟨cur, hh, hs, hc⟩ := h
  refine fun _ => ⟨B, 0, by have := Array.getElem?_eq_some_iff.1 hh; exact this.1, rfl, fun i hi => ?_⟩
  rw [cell_of_row w B (0 + i) cur 42 (0, 0) hh, Nat.zero_add]
  exact hc i hi

/-- The history at block 'hb'. -/
structure Hist (w : World) (hb n m : Nat) (X : Nat → B1) (K : Nat → ByteArray) : Prop where
  row : ∃ ao co pr ak ck, w.heap[hb]? = some (.cells #[.slice ao n co, .int .i64 pr, .slice ak m ck] 57 (0, 0)) ∧ OpsH w ao n X ∧ Strs w ak m K

theorem Hist.lt {w : World} {hb n m : Nat} {X : Nat → B1} {K : Nat → ByteArray} (h : Hist w hb n m X K) : hb < w.heap.size := by
  obtain ⟨ao, co, pr, ak, ck, h1, _⟩ := h.row
  exact (Array.getElem?_eq_some_iff.1 h1).1

theorem Hist.below {w w' : World} {hb n m : Nat} {X : Nat → B1} {K : Nat → ByteArray} (h : Hist w hb n m X K) (hbl : Below w.heap.size w w') : Hist w' hb n m X K := by
  have hlt := h.lt
  obtain ⟨ao, co, pr, ak, ck, h1, h2, h3⟩ := h.row
  exact ⟨ao, co, pr, ak, ck, (hbl.block hb hlt).trans h1, h2.below hbl, h3.below hbl⟩

attribute [local go_sem ↓] Go.wp_at_zero Go.wp_at_succ

set_option maxRecDepth 100000 in
set_option maxHeartbeats 4000000 in
theorem build_any (a1 : Option Addr) (n cap1 : Nat) (X : Nat → B1) (a2 : Option Addr) (m cap2 : Nat) (K : Nat → ByteArray) (pr : Int) (w : World) (m1 : n ≤ 65536) (m2 : m ≤ 65536) (h1 : Ops w a1 n X) (h2 : Strs w a2 m K) :
    Calls Try.prog 11 #[.slice a1 n cap1, .slice a2 m cap2, .int .i64 pr] w fun e w' => ∃ hb, e = .returned (.pointer (some ⟨hb, 0, none⟩)) ∧ Hist w' hb n m X K ∧ Below w.heap.size w w' := by
  have hnil := fun w' n c => run_neq_slice_nil_any (P := Try.prog) w' 22 37 a1 n c 0 0 Try.underlying22
  have hnil2 := fun w' n c => run_neq_slice_nil_any (P := Try.prog) w' 23 9 a2 n c 0 0 Try.underlying23
  go_enter Try.func11, Try.ntmps11
  go_upto_if 16 with (fail)
  go_cut [8] (fun _ wc => ∃ ao co, Hid (wc.heap[w.heap.size]? = some (.cells #[.slice ao n co, .int .i64 pr, .slice none 0 0] 57 (0, 0))) ∧ OpsH wc ao n X ∧ Hid (∀ b, ao = some ⟨b, 0, none⟩ → b ≠ w.heap.size) ∧ Below w.heap.size w wc)
  case first =>
    cases a1 with
    | none =>
      obtain rfl := h1.nil_len
      go_wp2_with fail
      go_meet
      case rel => exact ⟨none, 0, heap_alloc_new _ _, fun h => by omega, fun b e => (by cases e), (Below.refl _ _).alloc (Nat.le_refl _) _⟩
    | some x =>
      have hmk := run_make50 n (by omega)
      have hz' : 0 < n → ∃ b off, b < w.heap.size ∧ x = ⟨b, off, none⟩ ∧ ∀ i, i < n → Seven w b (off + i * 7) (X i) := fun h => by
        obtain ⟨b, off, hb, e, hc⟩ := h1 h
        exact ⟨b, off, hb, by simpa using e, hc⟩
      go_wp2
      go_loopw [9] (fun i wr => ∃ k : Nat, k ≤ n ∧ i = .int .i64 k ∧ Half11 wr (w.heap.size + 1) n k X ∧ Below (w.heap.size + 1) (w.alloc (.cells #[.slice none 0 0, .int .i64 pr, .slice none 0 0] 57)) wr) (fun i _ => n - (intOf i).toNat)
      case atStart =>
        refine ⟨0, by omega, rfl, ?_, (Below.refl _ _).alloc (by simp) _⟩
        have := Half11.made (w.alloc (.cells #[.slice none 0 0, .int .i64 pr, .slice none 0 0] 57)) (cellsOp ⟨0, ByteArray.empty, 0, 0, 0, 0, 0⟩).toArray n X
        simpa using this
      case round =>
        obtain ⟨k, hk, rfl, hH, hbel⟩ := hrel
        by_cases hlt : k < n
        · obtain ⟨b, off, hbl, rfl, hc⟩ := hz' (by omega)
          have S := hc k hlt
          have S' : Seven (w.alloc (.cells #[.slice none 0 0, .int .i64 pr, .slice none 0 0] 57)) b (off + k * 7) (X k) := S.below ((Below.refl w.heap.size w).alloc (Nat.le_refl _) _) hbl
          obtain ⟨d0, d1, d2, d3, d4, d5, d6⟩ := S'.below hbel (by omega)
          obtain ⟨v0, e0⟩ := hH.cell (k * 11) (by omega)
          obtain ⟨v1, e1⟩ := hH.cell (k * 11 + 1) (by omega)
          obtain ⟨v2, e2⟩ := hH.cell (k * 11 + 2) (by omega)
          obtain ⟨v3, e3⟩ := hH.cell (k * 11 + 3) (by omega)
          obtain ⟨v4, e4⟩ := hH.cell (k * 11 + 4) (by omega)
          obtain ⟨v5, e5⟩ := hH.cell (k * 11 + 5) (by omega)
          obtain ⟨v6, e6⟩ := hH.cell (k * 11 + 6) (by omega)
          obtain ⟨v7, e7⟩ := hH.cell (k * 11 + 7) (by omega)
          obtain ⟨v8, e8⟩ := hH.cell (k * 11 + 8) (by omega)
          obtain ⟨v9, e9⟩ := hH.cell (k * 11 + 9) (by omega)
          obtain ⟨v10, e10⟩ := hH.cell (k * 11 + 10) (by omega)
          have f0 := hH.free (k * 11)
          have f1 := hH.free (k * 11 + 1)
          have f2 := hH.free (k * 11 + 2)
          have f3 := hH.free (k * 11 + 3)
          have f4 := hH.free (k * 11 + 4)
          have f5 := hH.free (k * 11 + 5)
          have f6 := hH.free (k * 11 + 6)
          have f7 := hH.free (k * 11 + 7)
          have f8 := hH.free (k * 11 + 8)
          have f9 := hH.free (k * 11 + 9)
          have f10 := hH.free (k * 11 + 10)
          have hne : ¬ b = w.heap.size + 1 := by omega
          have hne2 : ¬ w.heap.size + 1 = b := by omega
          have g1 : (0 : Int) ≤ (k : Int) := by omega
          have g2 : (k : Int) < (n : Int) := by omega
          have HH := hH.step hlt
          have HB2 := below_setCells (w.heap.size + 1) (Nat.le_refl _) (cellsOp (X k)) (k * 11) _ hbel
          generalize X k = xk at d0 d1 d2 d3 d4 d5 d6 HH HB2
          clear hc h1 h2 hz' S S' hnil hnil2 hmk
          go_wp2
          go_region_held3 (fun w' => w'.cell? ⟨b, off + k * 7, none⟩ = some (.int .i64 xk.p) ∧ w'.cell? ⟨b, off + k * 7 + 1, none⟩ = some (.string xk.k) ∧ w'.cell? ⟨b, off + k * 7 + 2, none⟩ = some (.int .u8 xk.f) ∧ w'.cell? ⟨b, off + k * 7 + 3, none⟩ = some (.int .u8 xk.o) ∧ w'.cell? ⟨b, off + k * 7 + 4, none⟩ = some (.int .i64 xk.i) ∧ w'.cell? ⟨b, off + k * 7 + 5, none⟩ = some (.int .i64 xk.c) ∧ w'.cell? ⟨b, off + k * 7 + 6, none⟩ = some (.int .i64 xk.t)) (go_keep) (fail)
          go_wp2
          go_roundw
          case rel =>
            repeat apply Exists.intro
            exact ⟨⟨k + 1, by omega, by go_num, HH.drew, HB2.drew⟩, rfl⟩
          case measure => simp [intOf]; omega
        · obtain rfl : k = n := by omega
          have hrow : wr.heap[w.heap.size]? = some (.cells #[.slice none 0 0, .int .i64 pr, .slice none 0 0] 57 (0, 0)) := (hbel.block _ (by omega)).trans (heap_alloc_new _ _)
          have HR : Hid (wr.heap[w.heap.size]? = some (.cells #[.slice none 0 0, .int .i64 pr, .slice none 0 0] 57 (0, 0))) := hrow
          have c2 : wr.cell? ⟨w.heap.size, 0, none⟩ = some (.slice none 0 0) := by rw [cell_of_row wr w.heap.size 0 _ 57 (0, 0) hrow]; rfl
          have c3 : wr.frozen? ⟨w.heap.size, 0, none⟩ = false := frozen_of_row wr w.heap.size 0 _ 57 hrow
          have hO := hH.opsH
          clear hrow
          go_wp2_with fail
          go_meet
          case rel =>
            refine ⟨some ⟨w.heap.size + 1, 0, none⟩, k, heap_setCell_same wr w.heap.size 0 _ 57 _ HR.out, hO.setCell _ _ (fun b e => ?_), fun b e => ?_, ?_⟩
            · cases e; show w.heap.size + 1 ≠ w.heap.size; omega
            · cases e; omega
            · exact (((Below.refl _ _).alloc (Nat.le_refl _) _).trans (hbel.mono (Nat.le_succ _))).setCell (p := ⟨w.heap.size, 0, none⟩) (Nat.le_refl _) _
  case rest =>
    obtain ⟨ao, co, HB, hO, HNE, hbl⟩ := hcut
    have hs := hbl.size
    have hlt : w.heap.size < wc.heap.size := (Array.getElem?_eq_some_iff.1 HB.out).1
    have hK := h2.below hbl
    cases a2 with
    | none =>
      obtain rfl := h2.nil_len
      go_wp2
      go_ret
      exact ⟨w.heap.size, rfl, ⟨ao, co, pr, none, 0, HB.out, hO, fun h => by omega⟩, hbl⟩
    | some x =>
      have hmk := run_make_row' (P := Try.prog) 55 42 (.string ByteArray.empty) 16 Try.underlying55 info42 rfl .i64 .i64 m (by omega) (by omega)
      have hz' : 0 < m → ∃ b off, b < wc.heap.size ∧ x = ⟨b, off, none⟩ ∧ ∀ i, i < m → wc.cell? ⟨b, off + i, none⟩ = some (.string (K i)) := fun h => by
        obtain ⟨b, off, hb, e, hc⟩ := hK h
        exact ⟨b, off, hb, by simpa using e, hc⟩
      go_wp2
      go_loopw [11] (fun i wr => ∃ k : Nat, k ≤ m ∧ i = .int .i64 k ∧ HalfS wr wc.heap.size m k K ∧ Below wc.heap.size wc wr) (fun i _ => m - (intOf i).toNat)
      case atStart => exact ⟨0, by omega, rfl, HalfS.made _ _ _ _, (Below.refl _ _).alloc (Nat.le_refl _) _⟩
      case round =>
        obtain ⟨k, hk, rfl, hH, hbel⟩ := hrel
        by_cases hlt' : k < m
        · obtain ⟨b, off, hbb, rfl, hc⟩ := hz' (by omega)
          have c1 := hc k hlt'
          have d1 : wr.cell? ⟨b, off + k, none⟩ = some (.string (K k)) := (hbel.cell (p := ⟨b, off + k, none⟩) hbb).trans c1
          obtain ⟨v, d2⟩ := hH.cell k hlt'
          have d3 := hH.free k
          have hH' := hH.step hlt'
          have hb' := hbel.setCell (p := ⟨wc.heap.size, k, none⟩) (Nat.le_refl _) (.string (K k))
          clear c1 hc hz' hH
          go_wp2
          go_roundw
          case rel => exact ⟨k + 1, by omega, by go_num, hH', hb'⟩
          case measure => simp [intOf]; omega
        · obtain rfl : k = m := by omega
          have hrow : wr.heap[w.heap.size]? = some (.cells #[.slice ao n co, .int .i64 pr, .slice none 0 0] 57 (0, 0)) := (hbel.block _ hlt).trans HB.out
          have HR : Hid (wr.heap[w.heap.size]? = some (.cells #[.slice ao n co, .int .i64 pr, .slice none 0 0] 57 (0, 0))) := hrow
          have c2 : wr.cell? ⟨w.heap.size, 2, none⟩ = some (.slice none 0 0) := by rw [cell_of_row wr w.heap.size 2 _ 57 (0, 0) hrow]; rfl
          have c3 : wr.frozen? ⟨w.heap.size, 2, none⟩ = false := frozen_of_row wr w.heap.size 2 _ 57 hrow
          have hne : wc.heap.size ≠ w.heap.size := by omega
          have hst := hH.strs
          clear hrow
          go_wp2
          go_ret
          refine ⟨w.heap.size, rfl, ⟨ao, co, pr, some ⟨wc.heap.size, 0, none⟩, k, heap_setCell_same wr w.heap.size 2 _ 57 _ HR.out, ?_, ?_⟩, ?_⟩
          · exact (hO.below hbel).setCell _ _ (fun b e => HNE.out b e)
          · exact hst.setCell _ _ (fun b off e => by cases e; exact hne)
          · exact (hbl.trans (hbel.mono hs)).setCell (p := ⟨w.heap.size, 2, none⟩) (Nat.le_refl _) _

end Go.Proofs.Qxb6603043a
