import Derived.Test.Qxb6603043aCellW
import Derived.Test.Qxb6603043aKeyA
import Derived.Test.Qxb6603043aProcLaw
import Derived.Test.Qxb6603043aBytes20
namespace Go.Proofs.Qxb6603043a
open Go.RowKit Go.Maps
open UF

attribute [local go_sem ↓] Go.wp_at_zero Go.wp_at_succ

set_option maxRecDepth 100000 in
set_option maxHeartbeats 4000000 in
theorem cellLaw_any (a1 : Option Addr) (n cap1 : Nat) (X : Nat → B1) (a2 : Option Addr) (m cap2 : Nat) (K : Nat → ByteArray) (pr : Int) (w : World) (m1 : n ≤ 9223372036854775807) (m2 : m ≤ 9223372036854775807)
    (h1 : Ops w a1 n X) (h2 : Strs w a2 m K) (f1 : Fit n X) (f2 : FitK m K) :
    Calls Try.prog 5 #[.slice a1 n cap1, .slice a2 m cap2, .int .i64 pr] w fun e w' => e = .returned (.bool true) ∧ Below w.heap.size w w' := by
  go_enter Try.func5, Try.ntmps5
  go_wp2_with fail
  refine (bytes20_any a1 n cap1 X a2 m cap2 K pr w m1 m2 h1 h2 f1 f2).mono ?_
  rintro e w0 ⟨⟨r, rfl⟩, hw⟩
  subst w0
  cases r with
  | false =>
    go_wp2
    go_ret
    exact ⟨rfl, Below.refl _ _⟩
  | true =>
  by_cases t1 : 65536 < n
  · go_wp2
    go_ret
    exact ⟨rfl, Below.refl _ _⟩
  by_cases t2 : 65536 < m
  · go_wp2
    go_ret
    exact ⟨rfl, Below.refl _ _⟩
  go_wp2_with fail
  refine (size_any a1 n cap1 X a2 m cap2 K w (by omega) (by omega) h1 h2 f1 f2).mono ?_
  rintro e w0 ⟨r, rfl, hw⟩
  subst w0
  by_cases t3 : 1048576 < r
  · go_wp2
    go_ret
    exact ⟨rfl, Below.refl _ _⟩
  go_wp2_with fail
  refine (distinct_any a2 m cap2 K w (by omega) h2).mono ?_
  rintro e wD ⟨⟨r, rfl, hdis, _⟩, hbD⟩
  cases r with
  | false =>
    go_wp2
    go_ret
    exact ⟨rfl, hbD⟩
  | true =>
  have HD : Hid (∀ i j, i < j → j < m → K i ≠ K j) := hdis rfl
  have h1D := h1.below hbD
  have h2D := h2.below hbD
  clear hdis h1 h2
  go_wp2_with fail
  refine (cover_any a1 n cap1 X a2 m cap2 K wD (by omega) (by omega) h1D h2D).mono ?_
  rintro e wC ⟨⟨r, rfl, hcov, _⟩, hbC0⟩
  have hbC := hbD.trans (hbC0.mono hbD.size)
  cases r with
  | false =>
    go_wp2
    go_ret
    exact ⟨rfl, hbC⟩
  | true =>
  have HC : Hid (∀ i, i < n → keepB (X i) = true → ∃ j, j < m ∧ K j = (X i).k) := hcov rfl
  have h1C := h1D.below hbC0
  have h2C := h2D.below hbC0
  clear h1D h2D hcov hbC0 hbD
  go_wp2_with fail
  refine (build_any a1 n cap1 X a2 m cap2 K pr wC (by omega) (by omega) h1C h2C).mono ?_
  rintro e wA ⟨hb, rfl, hH, hbA⟩
  go_wp2_with fail
  refine (byKey_any hb n m X K wA (by omega) (by omega) f1 f2 HC.out hH).mono ?_
  rintro e wB ⟨a, cap, F, kap, rfl, hL, hkap, hG, hbB⟩
  go_wp2_with fail
  refine (byProc_any hb n m X K wB (by omega) f1 (hH.below hbB)).mono ?_
  rintro e wE ⟨a', cap', rfl, hP, hbE⟩
  have hbB1 := hbA.trans (hbB.mono hbA.size)
  have hbB' := hbB1.trans (hbE.mono hbB1.size)
  have hS := h2C.below hbB'
  have hGE := hG.below hbE
  have HL : Hid (Lasts m K F) := hL
  have HK : Hid (∀ i, i < n → kB X i = true → F (X i).k = some (kap i)) := hkap
  have HB : Hid (Below w.heap.size w wE) := hbC.trans (hbB'.mono hbC.size)
  have hsz := HB.out.size
  have HT : Hid (sumTo (cn X kap n) m = (filt (kB X) n).length) := sum_groups (kB X) kap m n (fun i hi h => (hL.hits _ _ (hkap i hi h)).1)
  have HS : Hid (sumTo (lP X (names (kB X) (pB X) n) n) (names (kB X) (pB X) n).length = (filt (kB X) n).length) := names_sum X n
  have hfl := filt_length_le (kB X) n
  have hnl := names_length_le (kB X) (pB X) n
  have HF : Hid (∀ q p, (names (kB X) (pB X) n)[q]? = some p → 0 < (filt (prP X p) n).length ∧ ∃ i, (filt (prP X p) n)[0]? = some i ∧ (X i).p = p) := fun q p h => names_first h
  generalize hNN : names (kB X) (pB X) n = NN at *
  generalize hTT : (filt (kB X) n).length = tot at *
  clear hNN hTT hH hbA hbB f1 f2 hL hkap hbC h1C h2C hbB' hbB1 hG hbE
  go_wp2
  go_loopw [10, 11] (fun tv i wr => ∃ q : Nat, q ≤ m ∧ i = .int .i64 q ∧ tv = .int .i64 ((sumTo (cn X kap n) q : Nat) : Int) ∧ Below wE.heap.size wE wr) (fun _ i _ => m - (intOf i).toNat)
  case atStart => exact ⟨0, by omega, rfl, rfl, Below.refl _ _⟩
  case round =>
    obtain ⟨q, hq, rfl, rfl, hbel⟩ := hrel
    by_cases hqm : q < m
    · obtain ⟨pg, sa, sc, rfl, e1, e2⟩ := (hGE.below hbel) q hqm
      have i1 : (0 : Int) ≤ (q : Int) := by omega
      have i2 : (q : Int) < (m : Int) := by omega
      have hsm := sumTo_mono (cn X kap n) (show q + 1 ≤ m by omega)
      rw [HT.out] at hsm
      simp only [sumTo] at hsm
      have e3 : wr.cell? ⟨pg, q, none⟩ = some (.slice sa (cn X kap n q) sc) := e1
      clear e1 e2
      go_wp2_with fail
      go_roundw
      case rel => exact ⟨q + 1, by omega, by go_num, by simp [sumTo], hbel⟩
      case measure => simp [intOf]; omega
    · obtain rfl : m = q := by omega
      obtain ⟨wF, rfl⟩ : ∃ wF, wF = wr := ⟨_, rfl⟩
      rw [HT.out]
      have hPF := hP.below hbel
      have hGF := hGE.below hbel
      have hSF := hS.below hbel
      have HB2 : Hid (Below w.heap.size w wF) := HB.out.trans (hbel.mono hsz)
      have hsz2 := HB2.out.size
      clear hP hGE hS hqm hbel
      go_wp2
      go_loopw [10, 12] (fun tv i wr => ∃ q : Nat, q ≤ NN.length ∧ i = .int .i64 q ∧ tv = .int .i64 ((tot : Int) - ((sumTo (lP X NN n) q : Nat) : Int)) ∧ Below wF.heap.size wF wr) (fun _ i _ => NN.length - (intOf i).toNat)
      case atStart => exact ⟨0, by omega, rfl, by simp [sumTo], Below.refl _ _⟩
      case round =>
        obtain ⟨q, hq2, rfl, rfl, hbel2⟩ := hrel
        by_cases hqn : q < NN.length
        · have e0 : NN[q]? = some NN[q] := List.getElem?_eq_getElem hqn
          obtain ⟨pg, sa, sc, rfl, e1, e2⟩ := (hPF.below hbel2) q _ e0
          obtain ⟨hpos, _⟩ := HF.out q _ e0
          have el : lP X NN n q = (filt (prP X NN[q]) n).length := by simp [lP, List.getD, hqn]
          rw [← el] at hpos e1
          have i1 : (0 : Int) ≤ (q : Int) := by omega
          have i2 : (q : Int) < (NN.length : Int) := by omega
          have hsm := sumTo_mono (lP X NN n) (show q + 1 ≤ NN.length by omega)
          rw [HS.out] at hsm
          simp only [sumTo] at hsm
          clear e2 el e0
          go_wp2_with fail
          go_roundw
          case rel => exact ⟨q + 1, by omega, by go_num, by simp [sumTo]; omega, hbel2⟩
          case measure => simp [intOf]; omega
        · obtain rfl : NN.length = q := by omega
          rw [HS.out]
          obtain ⟨wG, rfl⟩ : ∃ wG, wG = wr := ⟨_, rfl⟩
          have hPG := hPF.below hbel2
          have hGG := hGF.below hbel2
          have hSG := hSF.below hbel2
          have HB3 : Hid (Below w.heap.size w wG) := HB2.out.trans (hbel2.mono hsz2)
          have hsz3 := HB3.out.size
          have ht0 : (tot : Int) - (tot : Int) = 0 := by omega
          rw [ht0]
          clear hPF hGF hSF hqn hbel2
          go_wp2
          go_loopw [13] (fun i wr => ∃ k : Nat, k ≤ m ∧ i = .int .i64 k ∧ Below wG.heap.size wG wr) (fun i _ => m - (intOf i).toNat)
          case atStart => exact ⟨0, by omega, rfl, Below.refl _ _⟩
          case round =>
            obtain ⟨k, hk, rfl, hbel3⟩ := hrel
            by_cases hkm : k < m
            · have hbk := hbel3
              clear hbel3
              go_wp2
              go_loopw [14] (fun i wr => ∃ q : Nat, q ≤ NN.length ∧ i = .int .i64 q ∧ Below wG.heap.size wG wr) (fun i _ => NN.length - (intOf i).toNat)
              case atStart => exact ⟨0, by omega, rfl, hbk⟩
              case round =>
                obtain ⟨q, hq3, rfl, hbel4⟩ := hrel
                by_cases hqn : q < NN.length
                · have e0 : NN[q]? = some NN[q] := List.getElem?_eq_getElem hqn
                  obtain ⟨p, hp⟩ : ∃ p, p = NN[q] := ⟨_, rfl⟩
                  rw [← hp] at e0
                  obtain ⟨pg, sa, sc, rfl, e1, e2⟩ := (hGG.below hbel4) k hkm
                  obtain ⟨pg', sa', sc', rfl, e1', e2'⟩ := (hPG.below hbel4) q p e0
                  obtain ⟨hpos, i0, hi0, hip⟩ := HF.out q p e0
                  obtain ⟨b, off, hbl, rfl, hc⟩ := (hSG.below hbel4) (by omega)
                  have d1 := hc k hkm
                  obtain ⟨bo, oo, hbo, rfl, hc2⟩ := e2' hpos
                  have d2 := (hc2 0 i0 hi0).ten1.c0
                  rw [hip, Nat.zero_mul, Nat.add_zero] at d2
                  have eg : grp X kap n k = filt (prK X (K k)) n := group_last (Q := fun i => (X i).k) HL.out HK.out hkm (fun i h1 h2 => fun e => HD.out k i h1 h2 e.symm)
                  rw [eg] at e1 e2
                  have HE : Hid ((filt (prK X (K k)) n).filter (fun i => (X i).p == p) = (filt (prP X p) n).filter (fun i => decide ((X i).k = K k))) := cell_start X (K k) p n
                  have hln1 := filt_length_le (prK X (K k)) n
                  have hln2 := filt_length_le (prP X p) n
                  have i1 : (0 : Int) ≤ (q : Int) := by omega
                  have i2 : (q : Int) < (NN.length : Int) := by omega
                  have i3 : (0 : Int) ≤ (k : Int) := by omega
                  have i4 : (k : Int) < (m : Int) := by omega
                  have i5 : (0 : Int) < ((filt (prP X p) n).length : Int) := by omega
                  generalize K k = key at d1 e1 e2 HE hln1
                  clear hc hp eg hip hi0 hc2 e0
                  generalize filt (prK X key) n = L1 at e1 e2 HE hln1
                  generalize filt (prP X p) n = L2 at e1' e2' HE hln2 hpos i5
                  go_wp2_with fail
                  go_region_held3 (fun w' => w'.cell? ⟨pg, k, none⟩ = some (.slice sa L1.length sc) ∧ w'.cell? ⟨pg', q, none⟩ = some (.slice (some ⟨bo, oo, none⟩) L2.length sc') ∧ w'.cell? ⟨b, off + k, none⟩ = some (.string key) ∧ w'.cell? ⟨bo, oo, none⟩ = some (.int .i64 p))
                    (first | exact ⟨e1, e1', d1, d2⟩ | exact ⟨keep_cell e1 (by assumption), keep_cell e1' (by assumption), keep_cell d1 (by assumption), keep_cell d2 (by assumption)⟩)
                    (first | (go_at_call 22; refine (sameCell_any sa sc (some ⟨bo, oo, none⟩) sc' L1 L2 X key p _ (by omega) (by omega) ?_ ?_ HE.out).mono ?_; exact e2.below ((Below.refl _ _).drew); exact e2'.below ((Below.refl _ _).drew); rintro e w3 ⟨rfl, hb3⟩))
                  have hb4 := hbel4.drew.trans (hb3.mono hbel4.size)
                  go_wp2
                  go_roundw
                  case rel => exact ⟨q + 1, by omega, by go_num, hb4⟩
                  case measure => simp [intOf]; omega
                · go_wp2
                  go_roundw
                  case rel => first | exact ⟨k + 1, by omega, by go_num, hbel4⟩ | (repeat apply Exists.intro; exact ⟨⟨k + 1, by omega, by go_num, hbel4⟩, rfl⟩)
                  case measure => simp [intOf]; omega
            · go_wp2
              go_ret
              exact ⟨rfl, HB3.out.trans (hbel3.mono hsz3)⟩

end Go.Proofs.Qxb6603043a
