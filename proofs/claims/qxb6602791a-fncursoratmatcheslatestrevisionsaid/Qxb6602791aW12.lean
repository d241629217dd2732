import Derived.Test.Qxb6602791aW11
namespace Go.Proofs.Qxb6602791a
open Go.RowKit

/-- The cursor at block 'cb' stands at place 'c' of the revisions 'ys', 'qs'. -/
structure Cur (w : World) (cb : Nat) (p : Int) (n : Nat) (ys qs : List Int) (c : Nat) : Prop where
  row : ∃ a' cap', w.heap[cb]? = some (.cells #[.int .i64 p, .slice a' n cap', .int .i64 c] 46 (0, 0)) ∧ Revs w cb a' n ys qs

theorem Cur.cell2 {w : World} {cb : Nat} {p : Int} {n : Nat} {ys qs : List Int} {c : Nat} (h : Cur w cb p n ys qs c) : w.cell? ⟨cb, 2, none⟩ = some (.int .i64 c) := by
  obtain ⟨a', cap', h, _⟩ := h.row
  rw [cell_of_row w cb 2 _ 46 (0, 0) h]; rfl
theorem Cur.cell0 {w : World} {cb : Nat} {p : Int} {n : Nat} {ys qs : List Int} {c : Nat} (h : Cur w cb p n ys qs c) : w.cell? ⟨cb, 0, none⟩ = some (.int .i64 p) := by
  obtain ⟨a', cap', h, _⟩ := h.row
  rw [cell_of_row w cb 0 _ 46 (0, 0) h]; rfl
theorem Cur.size {w : World} {cb : Nat} {p : Int} {n : Nat} {ys qs : List Int} {c : Nat} (h : Cur w cb p n ys qs c) : cb < w.heap.size := World.block_lt_of_cell? _ _ h.cell0

set_option maxHeartbeats 400000 in
theorem cursorAt_any (p : Int) (cb n : Nat) (ys qs : List Int) (k : Nat) (y : Int) (w : World) (hm : n ≤ 1048576) (hk : k ≤ n) (hC : Cur w cb p n ys qs k) :
    Calls Try.prog 12 #[.pointer (some ⟨cb, 0, none⟩), .int .i64 y] w fun e w' => ∃ c : Nat, e = .returned (.tuple #[.int .i64 (qAt p qs c), .bool (rAt ys y c)]) ∧ k ≤ c ∧ c ≤ n ∧ (∀ i, k ≤ i → i < c → ys.getD i 0 ≤ y) ∧ (c < n → y < ys.getD c 0) ∧ Cur w' cb p n ys qs c ∧ Below cb w w' := by
  obtain ⟨a', cap', hB, hR⟩ := hC.row
  have HB : Hid (w.heap[cb]? = some (.cells #[.int .i64 p, .slice a' n cap', .int .i64 k] 46 (0, 0))) := hB
  clear hB
  go_enter Try.func12, Try.ntmps12
  go_wp2_with fail
  refine (at_any p cb a' n cap' ys qs k y _ hm hk HB.out hR).mono ?_
  rintro e w1 ⟨c, rfl, h1, h2, h3, h4, h5, h6⟩
  have H3 : Hid (∀ i, k ≤ i → i < c → ys.getD i 0 ≤ y) := h3
  have H5 : Hid (w1.heap[cb]? = some (.cells #[.int .i64 p, .slice a' n cap', .int .i64 c] 46 (0, 0))) := h5
  clear h3 h5
  go_wp2
  go_ret2
  exact ⟨c, rfl, h1, h2, H3.out, h4, ⟨a', cap', H5.out, hR.below h6⟩, h6⟩

set_option maxHeartbeats 400000 in
theorem cursorNext_any (p : Int) (cb n : Nat) (ys qs : List Int) (k : Nat) (w : World) (hC : Cur w cb p n ys qs k) :
    Calls Try.prog 13 #[.pointer (some ⟨cb, 0, none⟩)] w fun e w' => e = .returned (.int .i64 k) ∧ w' = w := by
  have h2 := hC.cell2
  go_enter Try.func13, Try.ntmps13
  go_wp2
  go_ret
  exact ⟨rfl, rfl⟩

set_option maxHeartbeats 400000 in
theorem cursorPlanned_any (p : Int) (cb n : Nat) (ys qs : List Int) (k : Nat) (w : World) (hC : Cur w cb p n ys qs k) :
    Calls Try.prog 14 #[.pointer (some ⟨cb, 0, none⟩)] w fun e w' => e = .returned (.int .i64 p) ∧ w' = w := by
  have h2 := hC.cell0
  go_enter Try.func14, Try.ntmps14
  go_wp2
  go_ret
  exact ⟨rfl, rfl⟩

set_option maxHeartbeats 400000 in
theorem cursorLen_any (p : Int) (cb n : Nat) (ys qs : List Int) (k : Nat) (w : World) (hC : Cur w cb p n ys qs k) :
    Calls Try.prog 15 #[.pointer (some ⟨cb, 0, none⟩)] w fun e w' => e = .returned (.int .i64 n) ∧ w' = w := by
  obtain ⟨a', cap', hB, hR⟩ := hC.row
  have c1 : w.cell? ⟨cb, 1, none⟩ = some (.slice a' n cap') := by rw [cell_of_row w cb 1 _ 46 (0, 0) hB]; rfl
  clear hB
  go_enter Try.func15, Try.ntmps15
  go_wp2
  go_ret
  exact ⟨rfl, rfl⟩

set_option maxHeartbeats 400000 in
theorem cursorRevision_any (p : Int) (cb n : Nat) (ys qs : List Int) (k i : Nat) (w : World) (hi : i < n) (hC : Cur w cb p n ys qs k) :
    Calls Try.prog 16 #[.pointer (some ⟨cb, 0, none⟩), .int .i64 i] w fun e w' => e = .returned (.tuple #[.int .i64 (ys.getD i 0), .int .i64 (qs.getD i 0)]) ∧ Below w.heap.size w w' := by
  obtain ⟨a', cap', hB, hR⟩ := hC.row
  have c1 : w.cell? ⟨cb, 1, none⟩ = some (.slice a' n cap') := by rw [cell_of_row w cb 1 _ 46 (0, 0) hB]; rfl
  obtain ⟨b, hbc, rfl, hc⟩ := hR (by omega)
  obtain ⟨d1, d2⟩ := hc i hi
  have g1 : (0 : Int) ≤ (i : Int) := by omega
  have g2 : (i : Int) < (n : Int) := by omega
  clear hB hc
  go_enter Try.func16, Try.ntmps16
  go_wp2
  go_region
  go_wp2
  go_ret2
  refine ⟨by simp, ?_⟩
  exact ((Below.refl _ _).alloc (Nat.le_refl _) _).drew

set_option maxHeartbeats 400000 in
theorem lastRevised_any (p : Int) (a' : Option Addr) (n cap' : Nat) (ys qs : List Int) (w : World) (lim : Nat) (hm : n ≤ 1048576) (hR : Revs w lim a' n ys qs) :
    Calls Try.prog 23 #[.agg #[.int .i64 p, .slice a' n cap']] w fun e w' => e = .returned (.int .i64 (bAt ys n)) ∧ Below w.heap.size w w' := by
  rcases Nat.eq_zero_or_pos n with h0 | hp
  · subst h0
    go_enter Try.func23, Try.ntmps23
    go_wp2
    go_ret
    exact ⟨rfl, (Below.refl _ _).alloc (Nat.le_refl _) _⟩
  · obtain ⟨b, hbc, rfl, hc⟩ := hR (by omega)
    obtain ⟨d1, d2⟩ := hc (n - 1) (by omega)
    have x1 := World.cell_later_any d1
    have HB : Hid (bAt ys n = ys.getD (n - 1) 0) := by unfold bAt; rw [if_neg (by omega)]; rfl
    clear d1 d2 hc
    go_enter Try.func23, Try.ntmps23
    go_wp2
    go_ret
    refine ⟨by rw [HB.out]; simp, (Below.refl _ _).alloc (Nat.le_refl _) _⟩

set_option maxHeartbeats 400000 in
theorem zzLast_any (p : Int) (a1 : Option Addr) (n cap1 : Nat) (ys : List Int) (a2 : Option Addr) (cap2 : Nat) (qs : List Int) (w : World) (hm : n ≤ 1048576) (h1 : Ints w a1 n ys) (h2 : Ints w a2 n qs) :
    Calls Try.prog 20 #[.int .i64 p, .slice a1 n cap1, .slice a2 n cap2] w fun e w' => e = .returned (.int .i64 (bAt ys n)) ∧ Below w.heap.size w w' := by
  go_enter Try.func20, Try.ntmps20
  go_wp2_with fail
  refine (revs_any a1 n cap1 ys a2 cap2 qs _ hm h1 h2).mono ?_
  rintro e w1 ⟨a', cap', rfl, hR, hb⟩
  go_wp2_with fail
  refine (lastRevised_any p a' n cap' ys qs _ _ hm hR).mono ?_
  rintro e w2 ⟨rfl, hb2⟩
  go_wp2
  go_ret
  exact ⟨rfl, hb.trans (hb2.mono hb.size)⟩

theorem Cur.below {w w' : World} {cb : Nat} {p : Int} {n : Nat} {ys qs : List Int} {c : Nat} (h : Cur w cb p n ys qs c) (hb : Below w.heap.size w w') : Cur w' cb p n ys qs c := by
  have hs := h.size
  obtain ⟨a', cap', hB, hR⟩ := h.row
  exact ⟨a', cap', (hb.block cb hs).trans hB, hR.below (hb.mono (Nat.le_of_lt hs))⟩

set_option maxHeartbeats 400000 in
theorem newCursor_any (p : Int) (a1 : Option Addr) (n cap1 : Nat) (ys : List Int) (a2 : Option Addr) (cap2 : Nat) (qs : List Int) (nx : Nat) (w : World) (hm : n ≤ 1048576) (h1 : Ints w a1 n ys) (h2 : Ints w a2 n qs) :
    Calls Try.prog 11 #[.int .i64 p, .slice a1 n cap1, .slice a2 n cap2, .int .i64 nx] w fun e w' => ∃ cb, e = .returned (.pointer (some ⟨cb, 0, none⟩)) ∧ w.heap.size ≤ cb ∧ Cur w' cb p n ys qs nx ∧ Below w.heap.size w w' := by
  refine (cursor_any p a1 n cap1 ys a2 cap2 qs nx w hm h1 h2).mono ?_
  rintro e w1 ⟨cb, a', cap', rfl, h1, h2, h3, h4⟩
  exact ⟨cb, rfl, h1, ⟨a', cap', h2, h3⟩, h4⟩

end Go.Proofs.Qxb6602791a
