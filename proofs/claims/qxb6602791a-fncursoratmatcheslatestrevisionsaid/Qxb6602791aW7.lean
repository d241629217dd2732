import Derived.Test.Qxb6602791aBase
import Derived.Deep.QuietTactic
import Derived.BigQuiet
namespace Go.Proofs.Qxb6602791a
open Go.RowKit

set_option maxHeartbeats 400000 in
theorem sinc_any (a : Option Addr) (len cap : Nat) (z : List Int) (w : World) (hm : len ≤ 1048576) (hz : Ints w a len z) :
    Calls Try.prog 7 #[.slice a len cap] w fun e w' => ∃ r : Bool, e = .returned (.bool r) ∧ (r = true → StrictInc len z) ∧ Below w.heap.size w w' := by
  rcases Nat.eq_zero_or_pos len with h0 | hp
  · subst h0
    go_enter Try.func7, Try.ntmps7
    go_wp2
    refine wp_loop_rounds 1 ?_
    rw [rounds_succ]
    go_wp2
    go_ret
    exact ⟨true, rfl, fun _ i hi => by omega, Below.refl _ _⟩
  · obtain ⟨b, off, rfl, hc⟩ := hz (by omega)
    go_enter Try.func7, Try.ntmps7
    go_wp2
    go_loopw [3] (fun i wr => ∃ m : Nat, m + 1 ≤ len ∧ i = .int .i64 ((m : Int) + 1) ∧ (∀ j, j + 1 < m + 1 → z.getD j 0 < z.getD (j + 1) 0) ∧ Below w.heap.size w wr) (fun i _ => len - (intOf i).toNat)
    case atStart => exact ⟨0, by omega, rfl, fun j hj => by omega, Below.refl _ _⟩
    case round =>
      obtain ⟨m, hm1, rfl, hsi, hbel⟩ := hrel
      have HS : Hid (∀ j, j + 1 < m + 1 → z.getD j 0 < z.getD (j + 1) 0) := hsi
      clear hsi
      by_cases hlt : m + 1 < len
      · have c1 := hc m (by omega)
        have c2 := hc (m + 1) (by omega)
        have d1 : wr.cell? ⟨b, off + m, none⟩ = some (.int .i64 (z.getD m 0)) := (hbel.cell (p := ⟨b, off + m, none⟩) (World.block_lt_of_cell? _ _ c1)).trans c1
        have d2 : wr.cell? ⟨b, off + (m + 1), none⟩ = some (.int .i64 (z.getD (m + 1) 0)) := (hbel.cell (p := ⟨b, off + (m + 1), none⟩) (World.block_lt_of_cell? _ _ c2)).trans c2
        clear c1 c2 hc
        have g1 : (0 : Int) ≤ (m : Int) := by omega
        have g2 : (m : Int) + 1 < (len : Int) := by omega
        have g3 : (m : Int) < (len : Int) := by omega
        go_wp2
        go_quiet (fail)
        go_wp2
        · go_ret
          exact ⟨false, rfl, fun h => (by cases h), below_drewN hbel _⟩
        · have hstep : z[m]?.getD 0 < z[m + 1]?.getD 0 := by assumption
          go_roundw
          case rel =>
            refine ⟨m + 1, by omega, by go_num, fun j hj => ?_, below_drewN hbel _⟩
            rcases Nat.lt_or_ge j m with h | h
            · exact HS.out j (by omega)
            · obtain rfl : j = m := by omega
              simpa using hstep
          case measure => simp [intOf]; omega
      · go_wp2
        go_ret
        exact ⟨true, rfl, fun _ j hj => HS.out j (by omega), hbel⟩

set_option maxHeartbeats 400000 in
theorem ndec_any (a : Option Addr) (len cap : Nat) (z : List Int) (w : World) (hm : len ≤ 1048576) (hz : Ints w a len z) :
    Calls Try.prog 18 #[.slice a len cap] w fun e w' => ∃ r : Bool, e = .returned (.bool r) ∧ (r = true → NonDec len z) ∧ Below w.heap.size w w' := by
  rcases Nat.eq_zero_or_pos len with h0 | hp
  · subst h0
    go_enter Try.func18, Try.ntmps18
    go_wp2
    refine wp_loop_rounds 1 ?_
    rw [rounds_succ]
    go_wp2
    go_ret
    exact ⟨true, rfl, fun _ i hi => by omega, Below.refl _ _⟩
  · obtain ⟨b, off, rfl, hc⟩ := hz (by omega)
    go_enter Try.func18, Try.ntmps18
    go_wp2
    go_loopw [3] (fun i wr => ∃ m : Nat, m + 1 ≤ len ∧ i = .int .i64 ((m : Int) + 1) ∧ (∀ j, j + 1 < m + 1 → z.getD j 0 ≤ z.getD (j + 1) 0) ∧ Below w.heap.size w wr) (fun i _ => len - (intOf i).toNat)
    case atStart => exact ⟨0, by omega, rfl, fun j hj => by omega, Below.refl _ _⟩
    case round =>
      obtain ⟨m, hm1, rfl, hsi, hbel⟩ := hrel
      have HS : Hid (∀ j, j + 1 < m + 1 → z.getD j 0 ≤ z.getD (j + 1) 0) := hsi
      clear hsi
      by_cases hlt : m + 1 < len
      · have c1 := hc m (by omega)
        have c2 := hc (m + 1) (by omega)
        have d1 : wr.cell? ⟨b, off + m, none⟩ = some (.int .i64 (z.getD m 0)) := (hbel.cell (p := ⟨b, off + m, none⟩) (World.block_lt_of_cell? _ _ c1)).trans c1
        have d2 : wr.cell? ⟨b, off + (m + 1), none⟩ = some (.int .i64 (z.getD (m + 1) 0)) := (hbel.cell (p := ⟨b, off + (m + 1), none⟩) (World.block_lt_of_cell? _ _ c2)).trans c2
        clear c1 c2 hc
        have g1 : (0 : Int) ≤ (m : Int) := by omega
        have g2 : (m : Int) + 1 < (len : Int) := by omega
        have g3 : (m : Int) < (len : Int) := by omega
        go_wp2
        go_quiet (fail)
        go_wp2
        · go_ret
          exact ⟨false, rfl, fun h => (by cases h), below_drewN hbel _⟩
        · have hstep : z[m]?.getD 0 ≤ z[m + 1]?.getD 0 := by assumption
          go_roundw
          case rel =>
            refine ⟨m + 1, by omega, by go_num, fun j hj => ?_, below_drewN hbel _⟩
            rcases Nat.lt_or_ge j m with h | h
            · exact HS.out j (by omega)
            · obtain rfl : j = m := by omega
              simpa using hstep
          case measure => simp [intOf]; omega
      · go_wp2
        go_ret
        exact ⟨true, rfl, fun _ j hj => HS.out j (by omega), hbel⟩

end Go.Proofs.Qxb6602791a
