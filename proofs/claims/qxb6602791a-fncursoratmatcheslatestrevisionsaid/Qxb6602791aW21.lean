import Derived.Test.Qxb6602791aBase
import Derived.Test.Qxb6602791aPlain
import Derived.Test.Qxb6602791aW8
import Derived.Deep.QuietTactic
import Derived.BigQuiet
namespace Go.Proofs.Qxb6602791a
open Go.RowKit

theorem info49 : (Try.prog.info? 49).map (fun i => (i.zero, i.size, i.bytes)) = some (some (.agg #[.int .i64 0, .int .i64 0]), 2, 16) := by kernel_rfl

/-- The slice of revisions at 'a' holds the years 'ys' and the quantities 'qs'. -/
def Revs (w : World) (lim : Nat) (a : Option Addr) (n : Nat) (ys qs : List Int) : Prop :=
  0 < n → ∃ b, b < lim ∧ a = some ⟨b, 0, none⟩ ∧ ∀ i, i < n → w.cell? ⟨b, i * 2, none⟩ = some (.int .i64 (ys.getD i 0)) ∧ w.cell? ⟨b, i * 2 + 1, none⟩ = some (.int .i64 (qs.getD i 0))

def Half2 (w : World) (B n k : Nat) (ys qs : List Int) : Prop :=
  ∃ cur : Array Value, w.heap[B]? = some (.cells cur 49 (0, 0)) ∧ cur.size = n * 2 ∧ ∀ i, i < k → cur[i * 2]? = some (.int .i64 (ys.getD i 0)) ∧ cur[i * 2 + 1]? = some (.int .i64 (qs.getD i 0))

theorem Half2.made (w : World) (c : Array Value) (n : Nat) (ys qs : List Int) : Half2 (w.alloc (.cells (madeCells c (n * 2)) 49)) w.heap.size n 0 ys qs :=
  ⟨_, heap_alloc_new _ _, size_madeCells _ _, fun i hi => by omega⟩

theorem Half2.cell {w : World} {B n k : Nat} {ys qs : List Int} (h : Half2 w B n k ys qs) (j : Nat) (hk : j < n * 2) : ∃ v, w.cell? ⟨B, j, none⟩ = some v := by
  obtain ⟨cur, hh, hs, _⟩ := h
  rw [cell_of_row w B j cur 49 (0, 0) hh]
  exact ⟨cur[j]'(by omega), Array.getElem?_eq_getElem (by omega)⟩

theorem Half2.free {w : World} {B n k : Nat} {ys qs : List Int} (h : Half2 w B n k ys qs) (j : Nat) : w.frozen? ⟨B, j, none⟩ = false := by
  obtain ⟨cur, hh, _, _⟩ := h
  exact frozen_of_row w B j cur 49 hh

theorem Half2.step {w : World} {B n k : Nat} {ys qs : List Int} (h : Half2 w B n k ys qs) (hk : k < n) : Half2 ((w.setCell ⟨B, k * 2, none⟩ (.int .i64 (ys.getD k 0))).setCell ⟨B, k * 2 + 1, none⟩ (.int .i64 (qs.getD k 0))) B n (k + 1) ys qs := by
  obtain ⟨cur, hh, hs, hc⟩ := h
  have h1 := heap_setCell_same w B (k * 2) cur 49 (.int .i64 (ys.getD k 0)) hh
  have h2 := heap_setCell_same _ B (k * 2 + 1) _ 49 (.int .i64 (qs.getD k 0)) h1
  refine ⟨_, h2, by simp [hs], fun i hi => ?_⟩
  rw [Array.getElem?_setIfInBounds, Array.getElem?_setIfInBounds, Array.getElem?_setIfInBounds, Array.getElem?_setIfInBounds]
  by_cases e : k = i
  · subst e
    rw [if_neg (by omega), if_pos rfl, if_pos rfl]
    simp [hs]
    omega
  · rw [if_neg (by omega), if_neg (by omega), if_neg (by omega), if_neg (by omega)]
    exact hc i (by omega)

theorem Half2.drew {w : World} {B n k : Nat} {ys qs : List Int} (h : Half2 w B n k ys qs) : Half2 w.drew B n k ys qs := h

theorem Half2.revs {w : World} {B lim n : Nat} {ys qs : List Int} (h : Half2 w B n n ys qs) (hB : B < lim) : Revs w lim (some ⟨B, 0, none⟩) n ys qs := by
  obtain ⟨cur, hh, hs, hc⟩ := h
  refine fun _ => ⟨B, hB, rfl, fun i hi => ?_⟩
  rw [cell_of_row w B (i * 2) cur 49 (0, 0) hh, cell_of_row w B (i * 2 + 1) cur 49 (0, 0) hh]
  exact hc i hi

theorem run_make49 (n : Nat) (hn : n ≤ 1048576) (w : World) : (Instr.makeSlice 41 (.int .i64 (n : Int)) (.int .i64 (n : Int))).run Try.prog w = .ok (.slice (some ⟨w.heap.size, 0, none⟩) n n) (w.alloc (.cells (madeCells #[.int .i64 0, .int .i64 0] (n * 2)) 49)) := by
  obtain ⟨i, hi, hzz⟩ := Option.map_eq_some_iff.1 info49
  simp only [Prod.mk.injEq] at hzz
  obtain ⟨hz, hs, hb⟩ := hzz
  have hr := run_make (P := Try.prog) w 41 49 i _ Try.underlying41 hi hz .i64 .i64 n n (by omega) (Int.le_refl _) (by rw [hb]; omega) (by omega)
  simp only [Int.toNat_natCast, hs] at hr
  exact hr

set_option maxHeartbeats 400000 in
theorem revs_any (a1 : Option Addr) (n cap1 : Nat) (ys : List Int) (a2 : Option Addr) (cap2 : Nat) (qs : List Int) (w : World) (hm : n ≤ 1048576) (h1 : Ints w a1 n ys) (h2 : Ints w a2 n qs) :
    Calls Try.prog 21 #[.slice a1 n cap1, .slice a2 n cap2] w fun e w' => ∃ a' cap', e = .returned (.slice a' n cap') ∧ Revs w' w'.heap.size a' n ys qs ∧ Below w.heap.size w w' := by
  have hnil := fun w' n c => Lib.run_eql_slice_nil (P := Try.prog) w' 22 3 a1 n c 0 0 Try.underlying22
  have hmk := run_make49 n hm
  cases a1 with
  | none =>
    obtain rfl := h1.nil_len
    go_enter Try.func21, Try.ntmps21
    go_wp2
    go_ret
    exact ⟨none, 0, rfl, fun h => by omega, Below.refl _ _⟩
  | some x =>
    have hz' : 0 < n → ∃ b off, x = ⟨b, off, none⟩ ∧ ∀ i, i < n → w.cell? ⟨b, off + i, none⟩ = some (.int .i64 (ys.getD i 0)) := fun h => by
      obtain ⟨b, off, e, hc⟩ := h1 h
      exact ⟨b, off, by simpa using e, hc⟩
    go_enter Try.func21, Try.ntmps21
    go_wp2
    go_loopw [6] (fun i wr => ∃ k : Nat, k ≤ n ∧ i = .int .i64 k ∧ Half2 wr w.heap.size n k ys qs ∧ Below w.heap.size w wr ∧ w.heap.size < wr.heap.size) (fun i _ => n - (intOf i).toNat)
    case atStart => exact ⟨0, by omega, rfl, Half2.made _ _ _ _ _, (Below.refl _ _).alloc (Nat.le_refl _) _, by simp⟩
    case round =>
      obtain ⟨k, hk, rfl, hH, hbel, hsz⟩ := hrel
      by_cases hlt : k < n
      · obtain ⟨b1, o1, rfl, hc1⟩ := hz' (by omega)
        obtain ⟨b2, o2, rfl, hc2⟩ := h2 (by omega)
        have c1 := hc1 k hlt
        have c2 := hc2 k hlt
        have d1 : wr.cell? ⟨b1, o1 + k, none⟩ = some (.int .i64 (ys.getD k 0)) := (hbel.cell (p := ⟨b1, o1 + k, none⟩) (World.block_lt_of_cell? _ _ c1)).trans c1
        have d2 : wr.cell? ⟨b2, o2 + k, none⟩ = some (.int .i64 (qs.getD k 0)) := (hbel.cell (p := ⟨b2, o2 + k, none⟩) (World.block_lt_of_cell? _ _ c2)).trans c2
        obtain ⟨v, d3⟩ := hH.cell (k * 2) (by omega)
        obtain ⟨v', d4⟩ := hH.cell (k * 2 + 1) (by omega)
        have d5 := hH.free (k * 2)
        have d6 := hH.free (k * 2 + 1)
        have hH' := hH.step hlt
        have hb' := (hbel.setCell (p := ⟨w.heap.size, k * 2, none⟩) (Nat.le_refl _) (.int .i64 (ys.getD k 0))).setCell (p := ⟨w.heap.size, k * 2 + 1, none⟩) (Nat.le_refl _) (.int .i64 (qs.getD k 0))
        have g1 : (0 : Int) ≤ (k : Int) := by omega
        have g2 : (k : Int) < (n : Int) := by omega
        clear c1 c2 hc1 hc2 h1 h2 hz'
        go_wp2
        go_region
        all_goals go_wp2
        go_roundw
        case rel => exact ⟨k + 1, by omega, by go_num, Half2.drew (by simpa using hH'), Below.drew (by simpa using hb'), by simpa using hsz⟩
        case measure => simp [intOf]; omega
      · obtain rfl : k = n := by omega
        go_wp2
        go_ret
        exact ⟨_, _, rfl, hH.revs hsz, hbel⟩

end Go.Proofs.Qxb6602791a
