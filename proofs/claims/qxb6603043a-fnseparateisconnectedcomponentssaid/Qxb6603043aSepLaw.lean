import Derived.Test.Qxb6603043aSepW
import Derived.Test.Qxb6603043aComp
import Derived.Test.Qxb6603043aBytes23
import Derived.Test.Qxb6603043aSize
import Derived.Deep.QuietTactic
import Derived.BigQuiet
namespace Go.Proofs.Qxb6603043a
open Go.RowKit Go.Maps
open UF

theorem IntRow.below {w w' : World} {B n : Nat} {f : Nat → Int} (h : IntRow w B n f) (hb : Below w.heap.size w w') : IntRow w' B n f := h.block (hb.block B h.lt)

set_option maxRecDepth 100000 in
set_option maxHeartbeats 4000000 in
theorem sepLaw_any (a1 : Option Addr) (n cap1 : Nat) (X : Nat → B1) (a2 : Option Addr) (m cap2 : Nat) (K : Nat → ByteArray) (pr : Int) (w : World) (m1 : n ≤ 9223372036854775807) (m2 : m ≤ 9223372036854775807)
    (h1 : Ops w a1 n X) (h2 : Strs w a2 m K) (f1 : Fit n X) (f2 : FitK m K) :
    Calls Try.prog 6 #[.slice a1 n cap1, .slice a2 m cap2, .int .i64 pr] w fun e w' => e = .returned (.bool true) ∧ Below w.heap.size w w' := by
  go_enter Try.func6, Try.ntmps6
  go_wp2_with fail
  refine (bytes23_any a1 n cap1 X a2 m cap2 K pr w m1 m2 h1 h2 f1 f2).mono ?_
  rintro e w0 ⟨⟨r, rfl⟩, hw⟩
  subst w0
  cases r with
  | false =>
    go_wp2
    go_ret
    exact ⟨rfl, Below.refl _ _⟩
  | true =>
  by_cases t1 : 65536 < n
  · go_wp2
    go_ret
    exact ⟨rfl, Below.refl _ _⟩
  by_cases t2 : 65536 < m
  · go_wp2
    go_ret
    exact ⟨rfl, Below.refl _ _⟩
  go_wp2_with fail
  refine (size_any a1 n cap1 X a2 m cap2 K w (by omega) (by omega) h1 h2 f1 f2).mono ?_
  rintro e w0 ⟨r, rfl, hw⟩
  subst w0
  by_cases t3 : 1048576 < r
  · go_wp2
    go_ret
    exact ⟨rfl, Below.refl _ _⟩
  go_wp2_with fail
  refine (build_any a1 n cap1 X a2 m cap2 K pr w (by omega) (by omega) h1 h2).mono ?_
  rintro e wA ⟨hb, rfl, hH, hbA⟩
  go_wp2_with fail
  refine (sep_any hb n m X K wA (by omega) f1 hH).mono ?_
  rintro e wB ⟨R, a, cap, rfl, hL, hP, hbB⟩
  have hbB' := hbA.trans (hbB.mono hbA.size)
  go_wp2_with fail
  refine (comp_any a1 n cap1 X wB (by omega) (h1.below hbB')).mono ?_
  rintro e wC ⟨c, bc, rfl, hbc, hR, hCl, hbC⟩
  have hbC' := hbB'.trans (hbC.mono hbB'.size)
  have hP' := hP.below hbC
  have hcR : ∀ i, i < n → c i = (R i : Int) := fun i hi => by
    have h3 := hCl.isLab.unique hL i hi
    have h4 := hCl.all i hi hi
    have h5 : (c i).toNat = R i := h3
    omega
  have hR' := hR.congr hcR
  have HL : Hid (IsLab n (Adj X) R) := hL
  have hle := hL.le
  have hid := hL.idem
  clear hR hCl hcR hL hP hH hbA hbB hbB' hbC h1 h2 f1 f2
  have hmk := run_make_row' (P := Try.prog) 53 3 (.int .i64 0) 8 Try.underlying53 info3 rfl .i64 .i64 n (by omega) (by omega)
  have hnn := num_le R n
  have hmk2 := run_make_row' (P := Try.prog) 53 3 (.int .i64 0) 8 Try.underlying53 info3 rfl .i64 .i64 (num R n) (by omega) (by omega)
  have HI : Hid (∀ i, i < n → R i ≤ i) := hle
  have HJ : Hid (∀ i, i < n → R (R i) = R i) := hid
  clear hle hid
  go_wp2
  go_loopw [12, 13] (fun ct i wr => ∃ (k : Nat) (nf : Nat → Int), k ≤ n ∧ i = .int .i64 k ∧ ct = .int .i64 (num R k) ∧ IntRow wr wC.heap.size n nf ∧ Hid (∀ j, j < k → R j = j → nf j = (num R j : Int)) ∧ Below wC.heap.size wC wr) (fun _ i _ => n - (intOf i).toNat)
  case atStart => exact ⟨0, fun _ => 0, by omega, rfl, rfl, IntRow.made _ _, fun j hj => by omega, (Below.refl _ _).alloc (Nat.le_refl _) _⟩
  case round =>
    obtain ⟨k, nf, hk, rfl, rfl, hN, HF, hbel⟩ := hrel
    have hnk := num_le R k
    by_cases hlt : k < n
    · have c1 := (hR'.below hbel).cell hlt
      have d1 := hN.cell hlt
      have d2 := hN.free k
      by_cases hroot : R k = k
      · have hb1 : ((R k : Int) == (k : Int)) = true := by rw [hroot]; simp
        have HN : Hid (num R (k + 1) = num R k + 1) := num_root hroot
        have hN' := hN.set hlt (num R k : Int)
        clear hroot hN
        go_wp2
        go_roundw
        case rel =>
          refine ⟨k + 1, _, by omega, by go_num, by rw [HN.out]; go_num, hN', fun j hj e => ?_, hbel.setCell (p := ⟨wC.heap.size, k, none⟩) (Nat.le_refl _) _⟩
          by_cases ej : j = k
          · subst ej; rw [upd_same]
          · rw [upd_other _ _ ej]; exact HF.out j (by omega) e
        case measure => simp [intOf]; omega
      · have hb1 : ((R k : Int) == (k : Int)) = false := by rw [beq_eq_false_iff_ne]; omega
        have HN : Hid (num R (k + 1) = num R k) := num_other hroot
        have HR : Hid (R k ≠ k) := hroot
        clear hroot
        go_wp2
        go_roundw
        case rel =>
          refine ⟨k + 1, nf, by omega, by go_num, by rw [HN.out], hN, fun j hj e => ?_, hbel⟩
          rcases Nat.lt_or_ge j k with h | h
          · exact HF.out j h e
          · obtain rfl : j = k := by omega
            exact absurd e HR.out
        case measure => simp [intOf]; omega
    · obtain rfl : k = n := by omega
      obtain ⟨wD, rfl⟩ : ∃ wD : World, wD = wr := ⟨_, rfl⟩
      have hs := hbel.size
      have hNl := hN.lt
      go_wp2
      go_loopw [15] (fun i wr => ∃ q : Nat, q ≤ k ∧ i = .int .i64 q ∧ IntRow wr wD.heap.size (num R k) (fun p => ((partL R q p).length : Int)) ∧ Below wD.heap.size wD wr) (fun i _ => k - (intOf i).toNat)
      case atStart => exact ⟨0, by omega, rfl, IntRow.made _ _, (Below.refl _ _).alloc (Nat.le_refl _) _⟩
      case round =>
        obtain ⟨q, hq, rfl, hX2, hbel2⟩ := hrel
        have hbw := hbel.trans (hbel2.mono hs)
        by_cases hqk : q < k
        · have rl := HI.out q hqk
          have rr := HJ.out q hqk
          have np := num_lt rl rr
          have np2 := num_mono R (show q + 1 ≤ k by omega)
          have c1 := (hR'.below hbw).cell hqk
          have c2 := (hN.below hbel2).cell (i := R q) (by omega)
          have c2' : wr.cell? ⟨wC.heap.size, R q, none⟩ = some (.int .i64 (num R (R q) : Int)) := by rw [c2, HF.out (R q) (by omega) rr]
          obtain ⟨pn, HP⟩ : ∃ pn, Hid (pn = num R (R q)) := ⟨_, rfl⟩
          have hpk : pn < num R k := by rw [HP.out]; omega
          obtain ⟨pg, sa, sc, rfl, e1, e2⟩ := (hP'.below hbw) pn hpk
          obtain ⟨g1, g2⟩ := partL_get hqk HP.out.symm
          have g3 := partL_length_le R k pn
          obtain ⟨gg, rfl, e3⟩ := e2 (by omega)
          have e4 := e3 _ _ g2
          have c3 := hX2.cell hpk
          have c4 := hX2.free pn
          have hX3 := hX2.set hpk (((partL R q pn).length : Int) + 1)
          have HPL : Hid (∀ p, (partL R (q + 1) p).length = if p = pn then (partL R q pn).length + 1 else (partL R q p).length) := fun p => by
            rw [partL_succ, ← HP.out]
            by_cases e : p = pn
            · subst e; simp
            · rw [if_neg (fun e2 => e e2.symm), if_neg e]
          rw [← HP.out] at c2'
          generalize hl1 : (partL R q pn).length = l1 at *
          generalize hl2 : (partL R k pn).length = l2 at *
          have i1 : (0 : Int) ≤ (R q : Int) := by omega
          have i2 : (R q : Int) < (k : Int) := by omega
          have i3 : (pn : Int) < (num R k : Int) := by omega
          have i4 : (l1 : Int) < (l2 : Int) := by omega
          clear e2 e3 g2 c2 hX2 hl1 hl2
          go_wp2
          go_roundw
          case rel =>
            refine ⟨q + 1, by omega, by go_num, hX3.congr (fun p hp => ?_), hbel2.setCell (p := ⟨wD.heap.size, pn, none⟩) (Nat.le_refl _) _⟩
            rw [HPL.out p]
            by_cases e : p = pn
            · rw [e, upd_same, if_pos rfl]; simp
            · rw [upd_other _ _ e, if_neg e]
          case measure => simp [intOf]; omega
        · obtain rfl : q = k := by omega
          obtain ⟨wE, rfl⟩ : ∃ wE : World, wE = wr := ⟨_, rfl⟩
          have hs2 := hbel2.size
          go_wp2
          go_loopw [18] (fun i wr => ∃ p : Nat, p ≤ num R q ∧ i = .int .i64 p ∧ Below wE.heap.size wE wr) (fun i _ => num R q - (intOf i).toNat)
          case atStart => exact ⟨0, by omega, rfl, Below.refl _ _⟩
          case round =>
            obtain ⟨p, hp, rfl, hbel3⟩ := hrel
            have hbx := hbw.trans (hbel3.mono (Nat.le_trans hs hs2))
            by_cases hpk : p < num R q
            · obtain ⟨pg, sa, sc, rfl, e1, e2⟩ := (hP'.below hbx) p hpk
              have c3 := (hX2.below hbel3).cell hpk
              have i1 : (0 : Int) ≤ (p : Int) := by omega
              have i2 : (p : Int) < (num R q : Int) := by omega
              clear e2
              generalize (partL R q p).length = l1 at *
              go_wp2
              go_quiet (fail)
              go_wp2
              go_roundw
              case rel => exact ⟨p + 1, by omega, by go_num, below_drewN hbel3 _⟩
              case measure => simp [intOf]; omega
            · go_wp2
              go_ret
              exact ⟨rfl, hbC'.trans (hbx.mono hbC'.size)⟩

end Go.Proofs.Qxb6603043a
