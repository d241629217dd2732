import Derived.Test.Qxb6602791aBase
import Derived.Deep.OwnRows
import Derived.Lib.SliceRun
namespace Go.Proofs.Qxb6602791a
open Go.RowKit

theorem info3 : (Try.prog.info? 3).map (fun i => (i.zero, i.size, i.bytes)) = some (some (.int .i64 0), 1, 8) := by kernel_rfl
theorem info2 : (Try.prog.info? 2).map (fun i => (i.zero, i.size, i.bytes)) = some (some (.int .i64 0), 1, 8) := by kernel_rfl

/-- Block 'B' is a row of 'n' cells of type 'E', not frozen, whose first 'k' cells hold the first 'k' numbers of 'z'. -/
def Half (w : World) (B E n k : Nat) (z : List Int) : Prop :=
  ∃ cur : Array Value, w.heap[B]? = some (.cells cur E (0, 0)) ∧ cur.size = n ∧ ∀ i, i < k → cur[i]? = some (.int .i64 (z.getD i 0))

theorem Half.made (w : World) (E n : Nat) (z : List Int) : Half (w.alloc (.cells (madeCells #[.int .i64 0] n) E)) w.heap.size E n 0 z :=
  ⟨_, heap_alloc_new _ _, size_madeCells _ _, fun i hi => by omega⟩

theorem Half.cell {w : World} {B E n k : Nat} {z : List Int} (h : Half w B E n k z) (hk : k < n) : ∃ v, w.cell? ⟨B, k, none⟩ = some v := by
  obtain ⟨cur, hh, hs, _⟩ := h
  rw [cell_of_row w B k cur E (0, 0) hh]
  exact ⟨cur[k]'(by omega), Array.getElem?_eq_getElem (by omega)⟩

theorem Half.free {w : World} {B E n k : Nat} {z : List Int} (h : Half w B E n k z) (j : Nat) : w.frozen? ⟨B, j, none⟩ = false := by
  obtain ⟨cur, hh, _, _⟩ := h
  exact frozen_of_row w B j cur E hh

theorem Half.step {w : World} {B E n k : Nat} {z : List Int} (h : Half w B E n k z) (hk : k < n) : Half (w.setCell ⟨B, k, none⟩ (.int .i64 (z.getD k 0))) B E n (k + 1) z := by
  obtain ⟨cur, hh, hs, hc⟩ := h
  refine ⟨_, heap_setCell_same w B k cur E _ hh, by simp [hs], fun i hi => ?_⟩
  rw [Array.getElem?_setIfInBounds]
  by_cases e : k = i
  · subst e
    simp [hs, hk]
  · rw [if_neg e]
    exact hc i (by omega)

theorem Half.ints {w : World} {B E n : Nat} {z : List Int} (h : Half w B E n n z) : Ints w (some ⟨B, 0, none⟩) n z := by
  obtain ⟨cur, hh, hs, hc⟩ := h
  refine fun _ => ⟨B, 0, rfl, fun i hi => ?_⟩
  rw [cell_of_row w B (0 + i) cur E (0, 0) hh, Nat.zero_add]
  exact hc i hi

theorem Ints.nil_len {w : World} {n : Nat} {z : List Int} (h : Ints w none n z) : n = 0 := by
  rcases Nat.eq_zero_or_pos n with h0 | hp
  · exact h0
  · obtain ⟨b, off, e, _⟩ := h hp
    cases e

set_option maxHeartbeats 400000 in
theorem clone_any (a : Option Addr) (len cap : Nat) (z : List Int) (w : World) (hm : len ≤ 1048576) (hz : Ints w a len z) :
    Calls Try.prog 8 #[.slice a len cap] w fun e w' => ∃ a' cap', e = .returned (.slice a' len cap') ∧ Ints w' a' len z ∧ Below w.heap.size w w' := by
  have hnil := fun w' n c => Lib.run_eql_slice_nil (P := Try.prog) w' 22 3 a n c 0 0 Try.underlying22
  have hmk := run_make_row' (P := Try.prog) 22 3 (.int .i64 0) 8 Try.underlying22 info3 rfl .i64 .i64 len (by omega) (by omega)
  cases a with
  | none =>
    obtain rfl := hz.nil_len
    go_enter Try.func8, Try.ntmps8
    go_wp2
    go_ret
    exact ⟨none, 0, rfl, hz, Below.refl _ _⟩
  | some x =>
    have hz' : 0 < len → ∃ b off, x = ⟨b, off, none⟩ ∧ ∀ i, i < len → w.cell? ⟨b, off + i, none⟩ = some (.int .i64 (z.getD i 0)) := fun h => by
      obtain ⟨b, off, e, hc⟩ := hz h
      exact ⟨b, off, by simpa using e, hc⟩
    go_enter Try.func8, Try.ntmps8
    go_wp2
    go_loopw [4] (fun i wr => ∃ k : Nat, k ≤ len ∧ i = .int .i64 k ∧ Half wr w.heap.size 3 len k z ∧ Below w.heap.size w wr) (fun i _ => len - (intOf i).toNat)
    case atStart => exact ⟨0, by omega, rfl, Half.made _ _ _ _, (Below.refl _ _).alloc (Nat.le_refl _) _⟩
    case round =>
      obtain ⟨k, hk, rfl, hH, hbel⟩ := hrel
      by_cases hlt : k < len
      · obtain ⟨b, off, rfl, hc⟩ := hz' (by omega)
        have c1 := hc k hlt
        have d1 : wr.cell? ⟨b, off + k, none⟩ = some (.int .i64 (z.getD k 0)) := (hbel.cell (p := ⟨b, off + k, none⟩) (World.block_lt_of_cell? _ _ c1)).trans c1
        obtain ⟨v, d2⟩ := hH.cell hlt
        have d3 := hH.free k
        have hH' := hH.step hlt
        have hb' := hbel.setCell (p := ⟨w.heap.size, k, none⟩) (Nat.le_refl _) (.int .i64 (z.getD k 0))
        clear c1 hc hz hz' hH
        go_wp2
        go_roundw
        case rel => exact ⟨k + 1, by omega, by go_num, by simpa using hH', by simpa using hb'⟩
        case measure => simp [intOf]; omega
      · obtain rfl : k = len := by omega
        go_wp2
        go_ret
        exact ⟨_, _, rfl, hH.ints, hbel⟩

set_option maxHeartbeats 400000 in
theorem clone64_any (a : Option Addr) (len cap : Nat) (z : List Int) (w : World) (hm : len ≤ 1048576) (hz : Ints w a len z) :
    Calls Try.prog 9 #[.slice a len cap] w fun e w' => ∃ a' cap', e = .returned (.slice a' len cap') ∧ Ints w' a' len z ∧ Below w.heap.size w w' := by
  have hnil := fun w' n c => Lib.run_eql_slice_nil (P := Try.prog) w' 23 2 a n c 0 0 Try.underlying23
  have hmk := run_make_row' (P := Try.prog) 23 2 (.int .i64 0) 8 Try.underlying23 info2 rfl .i64 .i64 len (by omega) (by omega)
  cases a with
  | none =>
    obtain rfl := hz.nil_len
    go_enter Try.func9, Try.ntmps9
    go_wp2
    go_ret
    exact ⟨none, 0, rfl, hz, Below.refl _ _⟩
  | some x =>
    have hz' : 0 < len → ∃ b off, x = ⟨b, off, none⟩ ∧ ∀ i, i < len → w.cell? ⟨b, off + i, none⟩ = some (.int .i64 (z.getD i 0)) := fun h => by
      obtain ⟨b, off, e, hc⟩ := hz h
      exact ⟨b, off, by simpa using e, hc⟩
    go_enter Try.func9, Try.ntmps9
    go_wp2
    go_loopw [4] (fun i wr => ∃ k : Nat, k ≤ len ∧ i = .int .i64 k ∧ Half wr w.heap.size 2 len k z ∧ Below w.heap.size w wr) (fun i _ => len - (intOf i).toNat)
    case atStart => exact ⟨0, by omega, rfl, Half.made _ _ _ _, (Below.refl _ _).alloc (Nat.le_refl _) _⟩
    case round =>
      obtain ⟨k, hk, rfl, hH, hbel⟩ := hrel
      by_cases hlt : k < len
      · obtain ⟨b, off, rfl, hc⟩ := hz' (by omega)
        have c1 := hc k hlt
        have d1 : wr.cell? ⟨b, off + k, none⟩ = some (.int .i64 (z.getD k 0)) := (hbel.cell (p := ⟨b, off + k, none⟩) (World.block_lt_of_cell? _ _ c1)).trans c1
        obtain ⟨v, d2⟩ := hH.cell hlt
        have d3 := hH.free k
        have hH' := hH.step hlt
        have hb' := hbel.setCell (p := ⟨w.heap.size, k, none⟩) (Nat.le_refl _) (.int .i64 (z.getD k 0))
        clear c1 hc hz hz' hH
        go_wp2
        go_roundw
        case rel => exact ⟨k + 1, by omega, by go_num, by simpa using hH', by simpa using hb'⟩
        case measure => simp [intOf]; omega
      · obtain rfl : k = len := by omega
        go_wp2
        go_ret
        exact ⟨_, _, rfl, hH.ints, hbel⟩

end Go.Proofs.Qxb6602791a
