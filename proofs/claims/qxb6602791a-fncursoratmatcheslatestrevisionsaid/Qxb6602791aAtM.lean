import Derived.Test.Qxb6602791aW7
import Derived.Test.Qxb6602791aW10
import Derived.Test.Qxb6602791aW12
import Derived.Test.Qxb6602791aW17
namespace Go.Proofs.Qxb6602791a
open Go.RowKit

/-- What the law wants of the cursor's answer: 'c' is where the lookup stands at the settled year. -/
theorem settle_far {n : Nat} {ys : List Int} (hs : StrictInc n ys) {y : Int} {k c : Nat} (hp : 0 < k) (hkn : k ≤ n) (hy : y < ys.getD (k - 1) 0) (hkc : k ≤ c) (_hc : c ≤ n) (h3 : ∀ i, k ≤ i → i < c → ys.getD i 0 ≤ y) : c = k := by
  rcases Nat.lt_or_ge k c with h | h
  · have h1 := h3 k (Nat.le_refl _) h
    have h2 := inc_lt' hs (k - 1) k (by omega) (by omega)
    omega
  · omega

theorem stands_far {n : Nat} {ys : List Int} (hs : StrictInc n ys) {k : Nat} (hp : 0 < k) (hkn : k ≤ n) : Stands n ys (ys.getD (k - 1) 0) k := by
  refine ⟨hkn, fun i hi => ?_, fun h => inc_lt' hs (k - 1) k (by omega) h⟩
  rcases Nat.lt_or_ge i (k - 1) with h | h
  · have := inc_lt' hs i (k - 1) h (by omega)
    omega
  · obtain rfl : i = k - 1 := by omega
    exact Int.le_refl _

theorem stands_near {n : Nat} {ys : List Int} (hs : StrictInc n ys) {y : Int} {k c : Nat} (hkn : k ≤ n) (hy : 0 < k → ys.getD (k - 1) 0 ≤ y) (hc : c ≤ n) (h3 : ∀ i, k ≤ i → i < c → ys.getD i 0 ≤ y) (h4 : c < n → y < ys.getD c 0) : Stands n ys y c := by
  refine ⟨hc, fun i hi => ?_, h4⟩
  rcases Nat.lt_or_ge i k with h | h
  · have h1 := hy (by omega)
    rcases Nat.lt_or_ge i (k - 1) with g | g
    · have := inc_lt' hs i (k - 1) g (by omega)
      omega
    · obtain rfl : i = k - 1 := by omega
      exact h1
  · exact h3 i h hi

theorem rAt_far (ys : List Int) (y : Int) (k : Nat) (hy : y < ys.getD (k - 1) 0) : rAt ys y k = false := by
  unfold rAt
  rw [beq_eq_false_iff_ne.2 (by omega)]
  simp

theorem Ints.some_cell {w : World} {b o n : Nat} {z : List Int} (h : Ints w (some ⟨b, o, none⟩) n z) {i : Nat} (hi : i < n) : w.cell? ⟨b, o + i, none⟩ = some (.int .i64 (z.getD i 0)) := by
  obtain ⟨b', o', e, hc⟩ := h (by omega)
  cases e
  exact hc i hi

set_option maxHeartbeats 2000000 in
theorem atM_any (p : Int) (a1 : Option Addr) (n cap1 : Nat) (ys : List Int) (a2 : Option Addr) (n2 cap2 : Nat) (qs : List Int) (nx y : Int) (w : World)
    (m1 : n ≤ 9223372036854775807) (m2 : n2 ≤ 9223372036854775807) (I1 : Ints w a1 n ys) (I2 : Ints w a2 n2 qs) :
    Calls Try.prog 3 #[.int .i64 p, .slice a1 n cap1, .slice a2 n2 cap2, .int .i64 nx, .int .i64 y] w fun e w' => e = .returned (.bool true) ∧ Below w.heap.size w w' := by
  go_enter Try.func3, Try.ntmps3
  go_wp2_with fail
  refine (bytes6_any p a1 a2 n cap1 n2 cap2 nx y w m1 m2).mono ?_
  rintro e w0 ⟨r, rfl, hw⟩
  subst hw
  cases r with
  | false =>
    go_wp2
    go_ret
    exact ⟨rfl, Below.refl _ _⟩
  | true =>
  by_cases t1 : 65536 < n
  · go_wp2
    go_ret
    exact ⟨rfl, Below.refl _ _⟩
  by_cases t2 : 65536 < n2
  · go_wp2
    go_ret
    exact ⟨rfl, Below.refl _ _⟩
  by_cases t4 : n2 = n
  rotate_left
  · have t4' : ((n : Int) != (n2 : Int)) = true := by rw [bne_iff_ne]; omega
    go_wp2
    go_ret
    exact ⟨rfl, Below.refl _ _⟩
  subst t4
  go_wp2_with fail
  refine (sinc_any a1 n2 cap1 ys _ (by omega) I1).mono ?_
  rintro e wA ⟨r, rfl, hr, hbA⟩
  cases r with
  | false =>
    clear hr
    go_wp2
    go_ret
    exact ⟨rfl, hbA⟩
  | true =>
  have HS : Hid (StrictInc n2 ys) := hr rfl
  clear hr
  by_cases t5 : nx < 0
  · go_wp2
    go_ret
    exact ⟨rfl, hbA⟩
  by_cases t6 : (n2 : Int) < nx
  · go_wp2
    go_ret
    exact ⟨rfl, hbA⟩
  obtain ⟨k, rfl⟩ : ∃ k : Nat, nx = (k : Int) := ⟨nx.toNat, by omega⟩
  have hkn : k ≤ n2 := by omega
  clear t5 t6
  go_wp2_with fail
  refine (clone_any a1 n2 cap1 ys _ (by omega) (I1.below hbA)).mono ?_
  rintro e wC ⟨b1, d1, rfl, K1, hbC⟩
  go_wp2_with fail
  refine (clone64_any a2 n2 cap2 qs _ (by omega) ((I2.below hbA).below hbC)).mono ?_
  rintro e wD ⟨b2, d2, rfl, K2, hbD⟩
  have L1 := K1.below hbD
  have hb3 := hbA.trans (hbC.mono hbA.size)
  have hb4 := hb3.trans (hbD.mono hb3.size)
  clear K1 I1 I2 hbA hbC hbD hb3
  by_cases hfar : 0 < k ∧ y < ys.getD (k - 1) 0
  · obtain ⟨hp, hy⟩ := hfar
    obtain ⟨x, o, rfl, hx⟩ := L1 (by omega)
    have c1 := hx (k - 1) (by omega)
    obtain ⟨yk, HK⟩ : ∃ yk, Hid (yk = ys.getD (k - 1) 0) := ⟨_, rfl⟩
    rw [← HK.out] at c1 hy
    have g0 : (1 : Int) ≤ (k : Int) := by omega
    have g9 : (k : Int) ≤ (n2 : Int) := by omega
    clear hx
    go_wp2_with fail
    refine (stands_any p _ n2 d1 ys b2 d2 qs yk _ (by omega) L1 K2 HS.out).mono ?_
    rintro e wx ⟨c, rfl, hst, hw⟩
    subst wx
    have hck : c = k := hst.unique (by rw [HK.out]; exact stands_far HS.out hp hkn)
    subst hck
    have hne : (yk != y) = true := by rw [bne_iff_ne]; omega
    go_wp2_with fail
    refine (newCursor_any p _ n2 d1 ys b2 d2 qs c _ (by omega) L1 K2).mono ?_
    rintro e wF ⟨cb, rfl, hcb, hC, hbF⟩
    go_wp2_with fail
    refine (cursorAt_any p cb n2 ys qs c y _ (by omega) hkn hC).mono ?_
    rintro e wG ⟨c', rfl, g1, g2, g3, g4, hC2, hb⟩
    obtain rfl : c' = c := settle_far HS.out hp hkn (by rw [← HK.out]; exact hy) g1 g2 g3
    have hbG := hbF.trans (hb.mono hcb)
    have e2 : rAt ys y c' = false := rAt_far _ _ _ (by rw [← HK.out]; exact hy)
    rw [e2]
    clear e2 g3 g4 hst
    generalize qAt p qs c' = qv
    go_wp2_with fail
    refine (cursorNext_any p cb n2 ys qs c' _ hC2).mono ?_
    rintro e wz ⟨rfl, hw⟩
    subst hw
    go_wp2_with fail
    refine (cursorPlanned_any p cb n2 ys qs c' _ hC2).mono ?_
    rintro e wz ⟨rfl, hw⟩
    subst hw
    go_wp2_with fail
    refine (cursorLen_any p cb n2 ys qs c' _ hC2).mono ?_
    rintro e wz ⟨rfl, hw⟩
    subst hw
    go_wp2_with fail
    go_loopw [18] (fun i wr => ∃ j : Nat, j ≤ n2 ∧ i = .int .i64 j ∧ Cur wr cb p n2 ys qs c' ∧ Below wD.heap.size wD wr) (fun i _ => n2 - (intOf i).toNat)
    case atStart => exact ⟨0, by omega, rfl, hC2, hbG⟩
    case round =>
      obtain ⟨j, hj, rfl, hCr, hbel⟩ := hrel
      by_cases hlt : j < n2
      · obtain ⟨x2, o2, rfl, hx2⟩ := (K2.below hbel) (by omega)
        have s1 := (L1.below hbel).some_cell hlt
        have s2 := hx2 j hlt
        clear hx2
        go_wp2_with fail
        refine (cursorRevision_any p cb n2 ys qs c' j _ hlt hCr).mono ?_
        rintro e wy ⟨rfl, hby⟩
        have v1 : wy.cell? ⟨x, o + j, none⟩ = some (.int .i64 (ys.getD j 0)) := (hby.cell (p := ⟨x, o + j, none⟩) (World.block_lt_of_cell? _ _ s1)).trans s1
        have v2 : wy.cell? ⟨x2, o2 + j, none⟩ = some (.int .i64 (qs.getD j 0)) := (hby.cell (p := ⟨x2, o2 + j, none⟩) (World.block_lt_of_cell? _ _ s2)).trans s2
        have hC3 := hCr.below hby
        have hb9 := hbel.trans (hby.mono hbel.size)
        generalize ys.getD j 0 = yj at v1 ⊢
        generalize qs.getD j 0 = qj at v2 ⊢
        clear s1 s2 hby hCr
        go_wp2
        go_roundw
        case rel => exact ⟨j + 1, by omega, by go_num, hC3, hb9⟩
        case measure => simp [intOf]; omega
      · go_wp2
        go_ret
        exact ⟨rfl, hb4.trans (hbel.mono hb4.size)⟩
  · have hnear : 0 < k → ys.getD (k - 1) 0 ≤ y := fun h => by
      rcases Int.lt_or_le y (ys.getD (k - 1) 0) with g | g
      · exact absurd ⟨h, g⟩ hfar
      · exact g
    have HNR : Hid (0 < k → ys.getD (k - 1) 0 ≤ y) := hnear
    clear hfar hnear
    rcases Nat.eq_zero_or_pos k with hz | hp
    · subst hz
      go_wp2_with fail
      refine (stands_any p _ n2 d1 ys b2 d2 qs y _ (by omega) L1 K2 HS.out).mono ?_
      rintro e wx ⟨c, rfl, hst, hw⟩
      subst wx
      go_wp2_with fail
      refine (newCursor_any p _ n2 d1 ys b2 d2 qs 0 _ (by omega) L1 K2).mono ?_
      rintro e wF ⟨cb, rfl, hcb, hC, hbF⟩
      go_wp2_with fail
      refine (cursorAt_any p cb n2 ys qs 0 y _ (by omega) hkn hC).mono ?_
      rintro e wG ⟨c', rfl, g1, g2, g3, g4, hC2, hb⟩
      obtain rfl : c' = c := (stands_near HS.out hkn HNR.out g2 g3 g4).unique hst
      have hbG := hbF.trans (hb.mono hcb)
      clear g3 g4 hst
      generalize rAt ys y c' = rv
      generalize qAt p qs c' = qv
      go_wp2_with fail
      refine (cursorNext_any p cb n2 ys qs c' _ hC2).mono ?_
      rintro e wz ⟨rfl, hw⟩
      subst hw
      go_wp2_with fail
      refine (cursorPlanned_any p cb n2 ys qs c' _ hC2).mono ?_
      rintro e wz ⟨rfl, hw⟩
      subst hw
      go_wp2_with fail
      refine (cursorLen_any p cb n2 ys qs c' _ hC2).mono ?_
      rintro e wz ⟨rfl, hw⟩
      subst hw
      go_wp2_with fail
      go_loopw [18] (fun i wr => ∃ j : Nat, j ≤ n2 ∧ i = .int .i64 j ∧ Cur wr cb p n2 ys qs c' ∧ Below wD.heap.size wD wr) (fun i _ => n2 - (intOf i).toNat)
      case atStart => exact ⟨0, by omega, rfl, hC2, hbG⟩
      case round =>
        obtain ⟨j, hj, rfl, hCr, hbel⟩ := hrel
        by_cases hlt : j < n2
        · obtain ⟨x, o, rfl, _⟩ := L1 (by omega)
          obtain ⟨x2, o2, rfl, hx2⟩ := (K2.below hbel) (by omega)
          have s1 := (L1.below hbel).some_cell hlt
          have s2 := hx2 j hlt
          clear hx2
          go_wp2_with fail
          refine (cursorRevision_any p cb n2 ys qs c' j _ hlt hCr).mono ?_
          rintro e wy ⟨rfl, hby⟩
          have v1 : wy.cell? ⟨x, o + j, none⟩ = some (.int .i64 (ys.getD j 0)) := (hby.cell (p := ⟨x, o + j, none⟩) (World.block_lt_of_cell? _ _ s1)).trans s1
          have v2 : wy.cell? ⟨x2, o2 + j, none⟩ = some (.int .i64 (qs.getD j 0)) := (hby.cell (p := ⟨x2, o2 + j, none⟩) (World.block_lt_of_cell? _ _ s2)).trans s2
          have hC3 := hCr.below hby
          have hb9 := hbel.trans (hby.mono hbel.size)
          generalize ys.getD j 0 = yj at v1 ⊢
          generalize qs.getD j 0 = qj at v2 ⊢
          clear s1 s2 hby hCr
          go_wp2
          go_roundw
          case rel => exact ⟨j + 1, by omega, by go_num, hC3, hb9⟩
          case measure => simp [intOf]; omega
        · go_wp2
          go_ret
          exact ⟨rfl, hb4.trans (hbel.mono hb4.size)⟩
    · obtain ⟨x, o, rfl, hx⟩ := L1 (by omega)
      have c1 := hx (k - 1) (by omega)
      obtain ⟨yk, HK⟩ : ∃ yk, Hid (yk = ys.getD (k - 1) 0) := ⟨_, rfl⟩
      rw [← HK.out] at c1
      have hle : yk ≤ y := by rw [HK.out]; exact HNR.out hp
      have g0 : (1 : Int) ≤ (k : Int) := by omega
      have g9 : (k : Int) ≤ (n2 : Int) := by omega
      clear hx
      go_wp2_with fail
      refine (stands_any p _ n2 d1 ys b2 d2 qs y _ (by omega) L1 K2 HS.out).mono ?_
      rintro e wx ⟨c, rfl, hst, hw⟩
      subst wx
      go_wp2_with fail
      refine (newCursor_any p _ n2 d1 ys b2 d2 qs k _ (by omega) L1 K2).mono ?_
      rintro e wF ⟨cb, rfl, hcb, hC, hbF⟩
      go_wp2_with fail
      refine (cursorAt_any p cb n2 ys qs k y _ (by omega) hkn hC).mono ?_
      rintro e wG ⟨c', rfl, g1, g2, g3, g4, hC2, hb⟩
      obtain rfl : c' = c := (stands_near HS.out hkn HNR.out g2 g3 g4).unique hst
      have hbG := hbF.trans (hb.mono hcb)
      clear g3 g4 hst
      generalize rAt ys y c' = rv
      generalize qAt p qs c' = qv
      go_wp2_with fail
      refine (cursorNext_any p cb n2 ys qs c' _ hC2).mono ?_
      rintro e wz ⟨rfl, hw⟩
      subst hw
      go_wp2_with fail
      refine (cursorPlanned_any p cb n2 ys qs c' _ hC2).mono ?_
      rintro e wz ⟨rfl, hw⟩
      subst hw
      go_wp2_with fail
      refine (cursorLen_any p cb n2 ys qs c' _ hC2).mono ?_
      rintro e wz ⟨rfl, hw⟩
      subst hw
      go_wp2_with fail
      go_loopw [18] (fun i wr => ∃ j : Nat, j ≤ n2 ∧ i = .int .i64 j ∧ Cur wr cb p n2 ys qs c' ∧ Below wD.heap.size wD wr) (fun i _ => n2 - (intOf i).toNat)
      case atStart => exact ⟨0, by omega, rfl, hC2, hbG⟩
      case round =>
        obtain ⟨j, hj, rfl, hCr, hbel⟩ := hrel
        by_cases hlt : j < n2
        · obtain ⟨x2, o2, rfl, hx2⟩ := (K2.below hbel) (by omega)
          have s1 := (L1.below hbel).some_cell hlt
          have s2 := hx2 j hlt
          clear hx2
          go_wp2_with fail
          refine (cursorRevision_any p cb n2 ys qs c' j _ hlt hCr).mono ?_
          rintro e wy ⟨rfl, hby⟩
          have v1 : wy.cell? ⟨x, o + j, none⟩ = some (.int .i64 (ys.getD j 0)) := (hby.cell (p := ⟨x, o + j, none⟩) (World.block_lt_of_cell? _ _ s1)).trans s1
          have v2 : wy.cell? ⟨x2, o2 + j, none⟩ = some (.int .i64 (qs.getD j 0)) := (hby.cell (p := ⟨x2, o2 + j, none⟩) (World.block_lt_of_cell? _ _ s2)).trans s2
          have hC3 := hCr.below hby
          have hb9 := hbel.trans (hby.mono hbel.size)
          generalize ys.getD j 0 = yj at v1 ⊢
          generalize qs.getD j 0 = qj at v2 ⊢
          clear s1 s2 hby hCr
          go_wp2
          go_roundw
          case rel => exact ⟨j + 1, by omega, by go_num, hC3, hb9⟩
          case measure => simp [intOf]; omega
        · go_wp2
          go_ret
          exact ⟨rfl, hb4.trans (hbel.mono hb4.size)⟩

end Go.Proofs.Qxb6602791a
