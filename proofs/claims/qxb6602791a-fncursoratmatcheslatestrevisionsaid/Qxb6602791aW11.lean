import Derived.Test.Qxb6602791aW21
namespace Go.Proofs.Qxb6602791a
open Go.RowKit

theorem Revs.alloc {w : World} {lim : Nat} {a : Option Addr} {n : Nat} {ys qs : List Int} (h : Revs w lim a n ys qs) (hl : lim ≤ w.heap.size) (o : Obj) : Revs (w.alloc o) lim a n ys qs := by
  intro hp
  obtain ⟨b, hb, rfl, hc⟩ := h hp
  refine ⟨b, hb, rfl, fun i hi => ?_⟩
  rw [World.cell?_alloc_lt _ _ _ (show b < w.heap.size by omega), World.cell?_alloc_lt _ _ _ (show b < w.heap.size by omega)]
  exact hc i hi

theorem Revs.below {w w' : World} {lim : Nat} {a : Option Addr} {n : Nat} {ys qs : List Int} (h : Revs w lim a n ys qs) (hb : Below lim w w') : Revs w' lim a n ys qs := by
  intro hp
  obtain ⟨b, hlt, rfl, hc⟩ := h hp
  refine ⟨b, hlt, rfl, fun i hi => ?_⟩
  rw [hb.cell (p := ⟨b, i * 2, none⟩) hlt, hb.cell (p := ⟨b, i * 2 + 1, none⟩) hlt]
  exact hc i hi

set_option maxHeartbeats 400000 in
theorem cursor_any (p : Int) (a1 : Option Addr) (n cap1 : Nat) (ys : List Int) (a2 : Option Addr) (cap2 : Nat) (qs : List Int) (nx : Int) (w : World) (hm : n ≤ 1048576) (h1 : Ints w a1 n ys) (h2 : Ints w a2 n qs) :
    Calls Try.prog 11 #[.int .i64 p, .slice a1 n cap1, .slice a2 n cap2, .int .i64 nx] w fun e w' => ∃ cb a' cap', e = .returned (.pointer (some ⟨cb, 0, none⟩)) ∧ w.heap.size ≤ cb ∧ w'.heap[cb]? = some (.cells #[.int .i64 p, .slice a' n cap', .int .i64 nx] 46 (0, 0)) ∧ Revs w' cb a' n ys qs ∧ Below w.heap.size w w' := by
  go_enter Try.func11, Try.ntmps11
  go_wp2_with fail
  refine (revs_any a1 n cap1 ys a2 cap2 qs _ hm h1 h2).mono ?_
  rintro e w1 ⟨a', cap', rfl, hR, hb⟩
  go_wp2
  go_ret
  exact ⟨w1.heap.size, a', cap', rfl, hb.size, heap_alloc_new _ _, hR.alloc (Nat.le_refl _) _, hb.alloc hb.size _⟩

/-- The number in cell 2 of block 'cb'. -/
def nextOf (cb : Nat) (w : World) : Nat := match w.cell? ⟨cb, 2, none⟩ with | some (.int _ q) => q.toNat | _ => 0

theorem nextOf_row {cb : Nat} {w : World} {x y : Value} {k : Nat} (h : w.heap[cb]? = some (.cells #[x, y, .int .i64 (k : Int)] 46 (0, 0))) : nextOf cb w = k := by
  unfold nextOf
  rw [cell_of_row w cb 2 _ 46 (0, 0) h]
  simp

theorem World.cell_later_any {w : World} {a : Addr} {v : Value} (h : w.cell? a = some v) : ∀ o, (w.alloc o).cell? a = some v := fun o =>
  (World.cell?_alloc_lt w o a (World.block_lt_of_cell? _ _ h)).trans h

theorem ret_two {p q : Int} {r s : Bool} (h : p = q) (k : r = s) : Ending.returned (.tuple #[.int .i64 p, .bool r]) = .returned (.tuple #[.int .i64 q, .bool s]) := by rw [h, k]
theorem qAt_pos (p : Int) (qs : List Int) (c : Nat) (h : 0 < c) : qs[c - 1]?.getD 0 = qAt p qs c := by simp [qAt]; omega
theorem rAt_pos (ys : List Int) (y : Int) (c : Nat) (h : 0 < c) : (ys[c - 1]?.getD 0 == y) = rAt ys y c := by simp [rAt, h]
theorem at_end {w : World} {cb : Nat} {o : Obj} (h : w.heap[cb]? = some o) (o' : Obj) (hs : cb < w.heap.size) : (w.alloc o').drew.drew.heap[cb]? = some o := (Below.heap_alloc w o' cb hs).trans h
theorem at_below {a w : World} {cb : Nat} (h : Below cb a w) (o' : Obj) (hs : cb < w.heap.size) : Below cb a (w.alloc o').drew.drew := ((h.alloc (by omega) o').drew).drew

theorem row_step {cb : Nat} {w : World} {x y z : Value} (nq : Nat) (v : Value) (h : w.heap[cb]? = some (.cells #[x, y, z] 46 (0, 0))) : ((w.drewN nq).setCell ⟨cb, 2, none⟩ v).heap[cb]? = some (.cells #[x, y, v] 46 (0, 0)) := by
  have h' : (w.drewN nq).heap[cb]? = some (.cells #[x, y, z] 46 (0, 0)) := h
  rw [heap_setCell_same _ cb 2 _ 46 v h']
  rfl

set_option maxHeartbeats 1000000 in
theorem at_any (p : Int) (cb : Nat) (a' : Option Addr) (n cap' : Nat) (ys qs : List Int) (k : Nat) (y : Int) (w : World) (hm : n ≤ 1048576) (hk : k ≤ n) (hB : w.heap[cb]? = some (.cells #[.int .i64 p, .slice a' n cap', .int .i64 k] 46 (0, 0))) (hR : Revs w cb a' n ys qs) :
    Calls Try.prog 22 #[.pointer (some ⟨cb, 0, none⟩), .int .i64 y] w fun e w' => ∃ c : Nat, e = .returned (.tuple #[.int .i64 (qAt p qs c), .bool (rAt ys y c)]) ∧ k ≤ c ∧ c ≤ n ∧ (∀ i, k ≤ i → i < c → ys.getD i 0 ≤ y) ∧ (c < n → y < ys.getD c 0) ∧ w'.heap[cb]? = some (.cells #[.int .i64 p, .slice a' n cap', .int .i64 c] 46 (0, 0)) ∧ Below cb w w' := by
  have HB : Hid (w.heap[cb]? = some (.cells #[.int .i64 p, .slice a' n cap', .int .i64 k] 46 (0, 0))) := hB
  clear hB
  go_enter Try.func22, Try.ntmps22
  go_wp2
  go_loopw [7] (fun _ wr => ∃ c : Nat, k ≤ c ∧ c ≤ n ∧ Hid (wr.heap[cb]? = some (.cells #[.int .i64 p, .slice a' n cap', .int .i64 c] 46 (0, 0))) ∧ Hid (∀ i, k ≤ i → i < c → ys.getD i 0 ≤ y) ∧ Below cb w wr) (fun _ wr => n - nextOf cb wr)
  case atStart => exact ⟨k, Nat.le_refl _, hk, HB, fun i h1 h2 => by omega, Below.refl _ _⟩
  case round =>
    obtain ⟨c, hkc, hcn, HC, HL, hbel⟩ := hrel
    have c0 : wr.cell? ⟨cb, 0, none⟩ = some (.int .i64 p) := by rw [cell_of_row wr cb 0 _ 46 (0, 0) HC.out]; rfl
    have c1 : wr.cell? ⟨cb, 1, none⟩ = some (.slice a' n cap') := by rw [cell_of_row wr cb 1 _ 46 (0, 0) HC.out]; rfl
    have c2 : wr.cell? ⟨cb, 2, none⟩ = some (.int .i64 c) := by rw [cell_of_row wr cb 2 _ 46 (0, 0) HC.out]; rfl
    have c3 : wr.frozen? ⟨cb, 2, none⟩ = false := frozen_of_row wr cb 2 _ 46 HC.out
    have hR' := hR.below hbel
    by_cases hlt : c < n
    · obtain ⟨b, hbc, rfl, hc⟩ := hR' (by omega)
      obtain ⟨d1, d2⟩ := hc c hlt
      by_cases hle : ys.getD c 0 ≤ y
      · have hbb : ¬ b = cb := by omega
        have g1 : (0 : Int) ≤ (c : Int) := by omega
        have g2 : (c : Int) < (n : Int) := by omega
        have HL' : Hid (∀ i, k ≤ i → i < c + 1 → ys.getD i 0 ≤ y) := fun i h1 h2 => by
          rcases Nat.lt_or_ge i c with h | h
          · exact HL.out i h1 h
          · obtain rfl : i = c := by omega
            exact hle
        have hle' : ys[c]?.getD 0 ≤ y := by simpa using hle
        clear hle hc hR' hR
        go_wp2
        go_quiet (fail)
        go_wp2
        have R := row_step nq (.int .i64 ((c : Int) + 1)) HC.out
        go_roundw
        case rel => exact ⟨c + 1, by omega, by omega, R, HL', (below_drewN hbel _).setCell (p := ⟨cb, 2, none⟩) (Nat.le_refl _) _⟩
        case measure =>
          rw [nextOf_row (k := c + 1) R, nextOf_row HC.out]
          omega
      · have g1 : (0 : Int) ≤ (c : Int) := by omega
        have g2 : (c : Int) < (n : Int) := by omega
        have hle' : y < ys[c]?.getD 0 := by have : y < ys.getD c 0 := by omega
                                            simpa using this
        have HE : Hid (c < n → y < ys.getD c 0) := fun _ => by omega
        rcases Nat.eq_zero_or_pos c with h0 | hp
        · have g0 : (c : Int) ≤ 0 := by omega
          have H0 : Hid (c = 0) := h0
          clear hle hc hR' hR h0
          go_wp2
          go_quiet (fail)
          go_wp2
          go_ret2
          exact ⟨c, by rw [H0.out]; rfl, hkc, hcn, HL.out, HE.out, HC.out, below_drewN hbel _⟩
        · obtain ⟨d3, d4⟩ := hc (c - 1) (by omega)
          have g3 : (1 : Int) ≤ (c : Int) := by omega
          have e1 : cb < wr.heap.size := World.block_lt_of_cell? _ _ c0
          have e2 : b < wr.heap.size := by omega
          clear hle hc hR' hR
          go_wp2
          go_quiet (fail)
          obtain ⟨wq, HQ⟩ : ∃ wq, Hid (wr.drewN nq = wq) := ⟨_, rfl⟩
          have c0' : wq.cell? ⟨cb, 0, none⟩ = some (.int .i64 p) := by rw [← HQ.out]; exact c0
          have c1' : wq.cell? ⟨cb, 1, none⟩ = some (.slice (some ⟨b, 0, none⟩) n cap') := by rw [← HQ.out]; exact c1
          have c2' : wq.cell? ⟨cb, 2, none⟩ = some (.int .i64 c) := by rw [← HQ.out]; exact c2
          have d3' : wq.cell? ⟨b, (c - 1) * 2, none⟩ = some (.int .i64 (ys.getD (c - 1) 0)) := by rw [← HQ.out]; exact d3
          have d4' : wq.cell? ⟨b, (c - 1) * 2 + 1, none⟩ = some (.int .i64 (qs.getD (c - 1) 0)) := by rw [← HQ.out]; exact d4
          have x1 := World.cell_later_any c1'
          have x2 := World.cell_later_any c2'
          have x3 := World.cell_later_any d3'
          have x4 := World.cell_later_any d4'
          have HC' : Hid (wq.heap[cb]? = some (.cells #[.int .i64 p, .slice (some ⟨b, 0, none⟩) n cap', .int .i64 c] 46 (0, 0))) := by rw [← HQ.out]; exact HC
          have hbel' : Below cb w wq := by rw [← HQ.out]; exact below_drewN hbel _
          have hsz : cb < wq.heap.size := World.block_lt_of_cell? _ _ c0'
          rw [HQ.out]
          clear c0 c1 c2 d3 d4 HC hbel
          go_wp2
          go_region
          go_wp2
          go_region
          go_wp2
          go_ret2
          exact ⟨c, ret_two (qAt_pos _ _ _ hp) (rAt_pos _ _ _ hp), hkc, hcn, HL.out, HE.out, at_end HC'.out _ hsz, at_below hbel' _ hsz⟩
    · have hd : decide ((c : Int) < (n : Int)) = false := by simp; omega
      have HE : Hid (c < n → y < ys.getD c 0) := fun h => absurd h hlt
      have g1 : (0 : Int) ≤ (c : Int) := by omega
      rcases Nat.eq_zero_or_pos c with h0 | hp
      · have g0 : (c : Int) ≤ 0 := by omega
        have H0 : Hid (c = 0) := h0
        clear hR' hR h0
        go_wp2
        go_quiet (fail)
        go_wp2
        go_ret2
        exact ⟨c, by rw [H0.out]; rfl, hkc, hcn, HL.out, HE.out, HC.out, below_drewN hbel _⟩
      · obtain ⟨b, hbc, rfl, hc⟩ := hR' (by omega)
        obtain ⟨d3, d4⟩ := hc (c - 1) (by omega)
        have g3 : (1 : Int) ≤ (c : Int) := by omega
        have e1 : cb < wr.heap.size := World.block_lt_of_cell? _ _ c0
        have e2 : b < wr.heap.size := by omega
        clear hc hR' hR
        go_wp2
        go_quiet (fail)
        obtain ⟨wq, HQ⟩ : ∃ wq, Hid (wr.drewN nq = wq) := ⟨_, rfl⟩
        have c0' : wq.cell? ⟨cb, 0, none⟩ = some (.int .i64 p) := by rw [← HQ.out]; exact c0
        have c1' : wq.cell? ⟨cb, 1, none⟩ = some (.slice (some ⟨b, 0, none⟩) n cap') := by rw [← HQ.out]; exact c1
        have c2' : wq.cell? ⟨cb, 2, none⟩ = some (.int .i64 c) := by rw [← HQ.out]; exact c2
        have d3' : wq.cell? ⟨b, (c - 1) * 2, none⟩ = some (.int .i64 (ys.getD (c - 1) 0)) := by rw [← HQ.out]; exact d3
        have d4' : wq.cell? ⟨b, (c - 1) * 2 + 1, none⟩ = some (.int .i64 (qs.getD (c - 1) 0)) := by rw [← HQ.out]; exact d4
        have x1 := World.cell_later_any c1'
        have x2 := World.cell_later_any c2'
        have x3 := World.cell_later_any d3'
        have x4 := World.cell_later_any d4'
        have HC' : Hid (wq.heap[cb]? = some (.cells #[.int .i64 p, .slice (some ⟨b, 0, none⟩) n cap', .int .i64 c] 46 (0, 0))) := by rw [← HQ.out]; exact HC
        have hbel' : Below cb w wq := by rw [← HQ.out]; exact below_drewN hbel _
        have hsz : cb < wq.heap.size := World.block_lt_of_cell? _ _ c0'
        rw [HQ.out]
        clear c0 c1 c2 d3 d4 HC hbel
        go_wp2
        go_region
        go_wp2
        go_region
        go_wp2
        go_ret2
        exact ⟨c, ret_two (qAt_pos _ _ _ hp) (rAt_pos _ _ _ hp), hkc, hcn, HL.out, HE.out, at_end HC'.out _ hsz, at_below hbel' _ hsz⟩

end Go.Proofs.Qxb6602791a
