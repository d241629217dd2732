import Derived.Test.Qxb6602791aW7
import Derived.Test.Qxb6602791aW12
import Derived.Test.Qxb6602791aW17
namespace Go.Proofs.Qxb6602791a
open Go.RowKit

/-- From place 'k' on, asked at a year no earlier than the last, the cursor comes to the end. -/
theorem all_in {n : Nat} {ys : List Int} (hs : StrictInc n ys) {y : Int} {c : Nat} (hp : 0 < n) (hy : bAt ys n ≤ y) (hc : c ≤ n) (h4 : c < n → y < ys.getD c 0) : c = n := by
  rcases Nat.lt_or_ge c n with h | h
  · exfalso
    have h1 := h4 h
    unfold bAt at hy
    rw [if_neg (by omega)] at hy
    rcases Nat.lt_or_ge c (n - 1) with g | g
    · have := inc_lt' hs c (n - 1) g (by omega)
      omega
    · obtain rfl : c = n - 1 := by omega
      omega
  · omega

theorem qAt_last (p : Int) (qs : List Int) (n : Nat) (h : 0 < n) : qAt p qs n = qs.getD (n - 1) 0 := by unfold qAt; rw [if_neg (by omega)]
theorem rAt_last (ys : List Int) (y : Int) (n : Nat) (h : 0 < n) : rAt ys y n = (bAt ys n == y) := by
  unfold rAt bAt
  rw [if_neg (by omega)]
  simp [h]

set_option maxHeartbeats 1000000 in
theorem last_any (p : Int) (a1 : Option Addr) (n cap1 : Nat) (ys : List Int) (a2 : Option Addr) (n2 cap2 : Nat) (qs : List Int) (later : Int) (w : World)
    (m1 : n ≤ 9223372036854775807) (m2 : n2 ≤ 9223372036854775807) (I1 : Ints w a1 n ys) (I2 : Ints w a2 n2 qs) :
    Calls Try.prog 5 #[.int .i64 p, .slice a1 n cap1, .slice a2 n2 cap2, .int .i64 later] w fun e w' => e = .returned (.bool true) ∧ Below w.heap.size w w' := by
  go_enter Try.func5, Try.ntmps5
  go_wp2_with fail
  refine (bytes19_any p a1 a2 n cap1 n2 cap2 later w m1 m2).mono ?_
  rintro e w0 ⟨r, rfl, hw⟩
  subst hw
  cases r with
  | false =>
    go_wp2
    go_ret
    exact ⟨rfl, Below.refl _ _⟩
  | true =>
  by_cases t1 : 65536 < n
  · go_wp2
    go_ret
    exact ⟨rfl, Below.refl _ _⟩
  by_cases t2 : 65536 < n2
  · go_wp2
    go_ret
    exact ⟨rfl, Below.refl _ _⟩
  by_cases t4 : n2 = n
  rotate_left
  · have t4' : ((n : Int) != (n2 : Int)) = true := by rw [bne_iff_ne]; omega
    go_wp2
    go_ret
    exact ⟨rfl, Below.refl _ _⟩
  subst t4
  go_wp2_with fail
  refine (sinc_any a1 n2 cap1 ys _ (by omega) I1).mono ?_
  rintro e wA ⟨r, rfl, hr, hbA⟩
  cases r with
  | false =>
    clear hr
    go_wp2
    go_ret
    exact ⟨rfl, hbA⟩
  | true =>
  have HS : Hid (StrictInc n2 ys) := hr rfl
  clear hr
  go_wp2_with fail
  refine (clone_any a1 n2 cap1 ys _ (by omega) (I1.below hbA)).mono ?_
  rintro e wC ⟨b1, d1, rfl, K1, hbC⟩
  go_wp2_with fail
  refine (clone64_any a2 n2 cap2 qs _ (by omega) ((I2.below hbA).below hbC)).mono ?_
  rintro e wD ⟨b2, d2, rfl, K2, hbD⟩
  have L1 := K1.below hbD
  have hb3 := hbA.trans (hbC.mono hbA.size)
  have hb4 := hb3.trans (hbD.mono hb3.size)
  clear K1 I1 I2 hbA hbC hbD hb3
  go_wp2_with fail
  refine (zzLast_any p b1 n2 d1 ys b2 d2 qs _ (by omega) L1 K2).mono ?_
  rintro e wE ⟨rfl, hbE⟩
  have hb5 := hb4.trans (hbE.mono hb4.size)
  go_wp2_with fail
  refine (newCursor_any p b1 n2 d1 ys b2 d2 qs 0 _ (by omega) (L1.below hbE) (K2.below hbE)).mono ?_
  rintro e wF ⟨cb, rfl, hcb, hC, hbF⟩
  have hb6 := hb5.trans (hbF.mono hb5.size)
  have hs5 := hb5.size
  rcases Nat.eq_zero_or_pos n2 with hz | hp
  · subst hz
    have hbz : bAt ys 0 = 0 := rfl
    go_wp2_with fail
    refine (cursorAt_any p cb 0 ys qs 0 later _ (by omega) (by omega) hC).mono ?_
    rintro e wG ⟨c, rfl, g1, g2, g3, g4, hC2, hb⟩
    obtain rfl : c = 0 := by omega
    have hb7 := hb6.trans (hb.mono (by omega))
    clear g3 g4
    have hq : qAt p qs 0 = p := rfl
    have hr : rAt ys later 0 = false := rfl
    go_wp2_with fail
    refine (cursorNext_any p cb 0 ys qs 0 _ hC2).mono ?_
    rintro e wz ⟨rfl, hw⟩
    subst hw
    go_wp2
    go_ret
    exact ⟨rfl, hb7⟩
  · obtain ⟨b, o, rfl, hcell⟩ := ((K2.below hbE).below hbF) hp
    have c1 := hcell (n2 - 1) (by omega)
    obtain ⟨fin, hfin⟩ : ∃ fin, fin = qs.getD (n2 - 1) 0 := ⟨_, rfl⟩
    rw [← hfin] at c1
    have HF : Hid (fin = qs.getD (n2 - 1) 0) := hfin
    obtain ⟨lr, HL⟩ : ∃ lr, Hid (lr = bAt ys n2) := ⟨_, rfl⟩
    clear hfin hcell
    rw [← HL.out]
    have g0 : (1 : Int) ≤ (n2 : Int) := by omega
    go_wp2_with fail
    refine (cursorAt_any p cb n2 ys qs 0 lr _ (by omega) (by omega) hC).mono ?_
    rintro e wG ⟨c, rfl, g1, g2, g3, g4, hC2, hb⟩
    have hc := all_in HS.out hp (by rw [HL.out]; exact Int.le_refl _) g2 g4
    subst hc
    have hb7 := hb6.trans (hb.mono (by omega))
    have e1 : qAt p qs c = fin := by rw [HF.out]; exact qAt_last _ _ _ hp
    have e2 : rAt ys lr c = true := by rw [rAt_last _ _ _ hp, HL.out]; simp
    rw [e1, e2]
    clear e1 e2 g3 g4
    go_wp2_with fail
    refine (cursorNext_any p cb c ys qs c _ hC2).mono ?_
    rintro e wz ⟨rfl, hw⟩
    subst hw
    by_cases hlt : later < lr
    · go_wp2_with fail
      refine (cursorAt_any p cb c ys qs c lr _ (by omega) (by omega) hC2).mono ?_
      rintro e wH ⟨c', rfl, g1', g2', g3', g4', hC3, hb'⟩
      obtain rfl : c' = c := by omega
      have hb8 := hb7.trans (hb'.mono (by omega))
      have e1 : qAt p qs c' = fin := by rw [HF.out]; exact qAt_last _ _ _ hp
      have e2 : rAt ys lr c' = true := by rw [rAt_last _ _ _ hp, HL.out]; simp
      rw [e1, e2]
      clear e1 e2 g3' g4'
      go_wp2_with fail
      refine (cursorNext_any p cb c' ys qs c' _ hC3).mono ?_
      rintro e wz ⟨rfl, hw⟩
      subst hw
      go_wp2
      go_ret
      exact ⟨rfl, hb8⟩
    · go_wp2_with fail
      refine (cursorAt_any p cb c ys qs c later _ (by omega) (by omega) hC2).mono ?_
      rintro e wH ⟨c', rfl, g1', g2', g3', g4', hC3, hb'⟩
      obtain rfl : c' = c := by omega
      have hb8 := hb7.trans (hb'.mono (by omega))
      have e1 : qAt p qs c' = fin := by rw [HF.out]; exact qAt_last _ _ _ hp
      have e2 : rAt ys later c' = (later == lr) := by rw [rAt_last _ _ _ hp, HL.out, Bool.beq_comm]
      rw [e1, e2]
      clear e1 e2 g3' g4'
      go_wp2_with fail
      refine (cursorNext_any p cb c' ys qs c' _ hC3).mono ?_
      rintro e wz ⟨rfl, hw⟩
      subst hw
      go_wp2
      go_ret
      exact ⟨rfl, hb8⟩

end Go.Proofs.Qxb6602791a
