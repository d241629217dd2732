import Derived.Test.Qxb6602791aW7
import Derived.Test.Qxb6602791aW10
import Derived.Test.Qxb6602791aW12
import Derived.Test.Qxb6602791aW17
namespace Go.Proofs.Qxb6602791a
open Go.RowKit

theorem stands_of {n : Nat} {ys : List Int} {y : Int} {k c : Nat} (h0 : ∀ i, i < k → ys.getD i 0 ≤ y) (h2 : c ≤ n) (h3 : ∀ i, k ≤ i → i < c → ys.getD i 0 ≤ y) (h4 : c < n → y < ys.getD c 0) : Stands n ys y c :=
  ⟨h2, fun i hi => by
    rcases Nat.lt_or_ge i k with h | h
    · exact h0 i h
    · exact h3 i h hi, h4⟩

set_option maxHeartbeats 1000000 in
theorem script_any (p : Int) (a1 : Option Addr) (n cap1 : Nat) (ys : List Int) (a2 : Option Addr) (n2 cap2 : Nat) (qs : List Int) (a3 : Option Addr) (n3 cap3 : Nat) (zs : List Int) (w : World)
    (m1 : n ≤ 9223372036854775807) (m2 : n2 ≤ 9223372036854775807) (m3 : n3 ≤ 9223372036854775807) (I1 : Ints w a1 n ys) (I2 : Ints w a2 n2 qs) (I3 : Ints w a3 n3 zs) :
    Calls Try.prog 4 #[.int .i64 p, .slice a1 n cap1, .slice a2 n2 cap2, .slice a3 n3 cap3] w fun e w' => e = .returned (.bool true) ∧ Below w.heap.size w w' := by
  go_enter Try.func4, Try.ntmps4
  go_wp2_with fail
  refine (bytes17_any p a1 a2 a3 n cap1 n2 cap2 n3 cap3 w m1 m2 m3).mono ?_
  rintro e w0 ⟨r, rfl, hw⟩
  subst hw
  cases r with
  | false =>
    go_wp2
    go_ret
    exact ⟨rfl, Below.refl _ _⟩
  | true =>
  by_cases t1 : 32768 < n
  · go_wp2
    go_ret
    exact ⟨rfl, Below.refl _ _⟩
  by_cases t2 : 32768 < n2
  · go_wp2
    go_ret
    exact ⟨rfl, Below.refl _ _⟩
  by_cases t3 : 32768 < n3
  · go_wp2
    go_ret
    exact ⟨rfl, Below.refl _ _⟩
  by_cases t4 : n2 = n
  rotate_left
  · have t4' : ((n : Int) != (n2 : Int)) = true := by rw [bne_iff_ne]; omega
    go_wp2
    go_ret
    exact ⟨rfl, Below.refl _ _⟩
  subst t4
  go_wp2_with fail
  refine (sinc_any a1 n2 cap1 ys _ (by omega) I1).mono ?_
  rintro e wA ⟨r, rfl, hr, hbA⟩
  cases r with
  | false =>
    clear hr
    go_wp2
    go_ret
    exact ⟨rfl, hbA⟩
  | true =>
  have HS : Hid (StrictInc n2 ys) := hr rfl
  clear hr
  have J1 := I1.below hbA
  have J2 := I2.below hbA
  have J3 := I3.below hbA
  go_wp2_with fail
  refine (ndec_any a3 n3 cap3 zs _ (by omega) J3).mono ?_
  rintro e wB ⟨r, rfl, hr, hbB⟩
  have hb2 := hbA.trans (hbB.mono hbA.size)
  cases r with
  | false =>
    clear hr
    go_wp2
    go_ret
    exact ⟨rfl, hb2⟩
  | true =>
  have HN : Hid (NonDec n3 zs) := hr rfl
  clear hr
  go_wp2_with fail
  refine (clone_any a1 n2 cap1 ys _ (by omega) (J1.below hbB)).mono ?_
  rintro e wC ⟨b1, d1, rfl, K1, hbC⟩
  go_wp2_with fail
  refine (clone64_any a2 n2 cap2 qs _ (by omega) ((J2.below hbB).below hbC)).mono ?_
  rintro e wD ⟨b2, d2, rfl, K2, hbD⟩
  go_wp2_with fail
  refine (clone_any a3 n3 cap3 zs _ (by omega) (((J3.below hbB).below hbC).below hbD)).mono ?_
  rintro e wE ⟨b3, d3, rfl, K3, hbE⟩
  have L1 := (K1.below hbD).below hbE
  have L2 := K2.below hbE
  have hb3 := hb2.trans (hbC.mono hb2.size)
  have hb4 := hb3.trans (hbD.mono hb3.size)
  have hb5 := hb4.trans (hbE.mono hb4.size)
  clear K1 K2 J1 J2 J3 I1 I2 I3 hbA hbB hbC hbD hbE hb2 hb3 hb4
  go_wp2_with fail
  refine (newCursor_any p b1 n2 d1 ys b2 d2 qs 0 _ (by omega) L1 L2).mono ?_
  rintro e wF ⟨cb, rfl, hcb, hC, hbF⟩
  go_wp2_with fail
  go_loopw [10] (fun i wr => ∃ k c : Nat, k ≤ n3 ∧ c ≤ n2 ∧ i = .int .i64 k ∧ Cur wr cb p n2 ys qs c ∧ Hid (k < n3 → ∀ i, i < c → ys.getD i 0 ≤ zs.getD k 0) ∧ Below wE.heap.size wE wr) (fun i _ => n3 - (intOf i).toNat)
  case atStart => exact ⟨0, 0, by omega, by omega, rfl, hC, fun _ i hi => by omega, hbF⟩
  case round =>
    obtain ⟨k, c, hk, hcn, rfl, hCr, HM, hbel⟩ := hrel
    by_cases hlt : k < n3
    · obtain ⟨b, o, rfl, hcell⟩ := (K3.below hbel) (by omega)
      have q1 := hcell k hlt
      have HSt := HM.out hlt
      obtain ⟨y, hy⟩ : ∃ y, y = zs.getD k 0 := ⟨_, rfl⟩
      rw [← hy] at q1 HSt
      have HY : Hid (y = zs.getD k 0) := hy
      have HST : Hid (∀ i, i < c → ys.getD i 0 ≤ y) := HSt
      clear hcell hy HM HSt
      go_wp2_with fail
      refine (stands_any p b1 n2 d1 ys b2 d2 qs y _ (by omega) (L1.below hbel) (L2.below hbel) HS.out).mono ?_
      rintro e wx ⟨c1, rfl, hst, hw⟩
      subst hw
      go_wp2_with fail
      refine (cursorAt_any p cb n2 ys qs c y _ (by omega) hcn hCr).mono ?_
      rintro e wy ⟨c2, rfl, g1, g2, g3, g4, hC2, hb⟩
      have hst2 := stands_of HST.out g2 g3 g4
      have hcc := hst.unique hst2
      subst hcc
      have HST2 : Hid (Stands n2 ys y c1) := hst
      have hb' := hbel.trans (hb.mono hcb)
      clear hst hst2 g3 g4
      generalize qAt p qs c1 = qv
      generalize rAt ys y c1 = rv
      go_wp2_with fail
      refine (cursorNext_any p cb n2 ys qs c1 _ hC2).mono ?_
      rintro e wz ⟨rfl, hw⟩
      subst hw
      go_wp2
      go_roundw
      case rel =>
        refine ⟨k + 1, c1, by omega, g2, by go_num, hC2, fun h i hi => ?_, hb'⟩
        have h1 := HST2.out.2.1 i hi
        have h2 := HN.out k h
        have h3 := HY.out
        omega
      case measure => simp [intOf]; omega
    · go_wp2
      go_ret
      exact ⟨rfl, hb5.trans (hbel.mono hb5.size)⟩

end Go.Proofs.Qxb6602791a
