import Derived.Test.Qxb6603043aIsP
namespace Go.Proofs.Qxb6603043a
open Go.RowKit Go.Maps
open UF

attribute [local go_sem ↓] Go.wp_at_zero Go.wp_at_succ

theorem strk_ne {a b : ByteArray} (h : ¬ a = b) : (a.toList == b.toList) = false := by
  rw [beq_eq_false_iff_ne, ByteArray.toList_eq, ByteArray.toList_eq]
  exact fun e => h (WideShapes.bytes_inj e)

/-- What 'b1IsKeptOfKey' looks for. -/
def prK (X : Nat → B1) (p : ByteArray) (i : Nat) : Bool := keepB (X i) && decide ((X i).k = p)

set_option maxRecDepth 100000 in
set_option maxHeartbeats 4000000 in
theorem isKeptK_any (ag : Option Addr) (capg : Nat) (a1 : Option Addr) (n cap1 : Nat) (X : Nat → B1) (p : ByteArray) (w : World) (hn : n ≤ 65536) (hO : Ops w a1 n X) (hG : OpsV w ag (filt (prK X p) n) X) :
    Calls Try.prog 14 #[.slice ag (filt (prK X p) n).length capg, .slice a1 n cap1, .string p] w fun e w' => e = .returned (.bool true) ∧ Below w.heap.size w w' := by
  have hgl := filt_length_le (prK X p) n
  go_enter Try.func14, Try.ntmps14
  go_wp2
  go_loopw [7, 8] (fun jv i wr => ∃ q : Nat, q ≤ n ∧ i = .int .i64 q ∧ jv = .int .i64 ((filt (prK X p) q).length : Nat) ∧ Below w.heap.size w wr) (fun _ i _ => n - (intOf i).toNat)
  case atStart => exact ⟨0, by omega, rfl, rfl, Below.refl _ _⟩
  case round =>
    obtain ⟨q, hq, rfl, rfl, hbel⟩ := hrel
    have hql := filt_length_le (prK X p) q
    by_cases hlt : q < n
    · obtain ⟨bo, oo, hbo, rfl, hc⟩ := (hO.below hbel) (by omega)
      have S0 := hc q hlt
      obtain ⟨x, hx⟩ : ∃ x, X q = x := ⟨_, rfl⟩
      have HPR : Hid (prK X p q = (keepB x && decide (x.k = p))) := by rw [← hx]; rfl
      have HXQ : Hid (X q = x) := hx
      rw [hx] at S0
      obtain ⟨s0, s1, s2, s3, s4, s5, s6⟩ := S0
      have S0 : Seven wr bo (oo + q * 7) x := ⟨s0, s1, s2, s3, s4, s5, s6⟩
      clear hc hx
      go_wp2_with fail
      refine (keepable17 x wr).mono ?_
      rintro e w1 ⟨rfl, hb1⟩
      have S1 := S0.below hb1 hbo
      have hbel1 := hbel.trans (hb1.mono hbel.size)
      have hbo1 := Nat.lt_of_lt_of_le hbo hb1.size
      clear s0 s1 s2 s3 s4 s5 s6 S0
      cases hkb : keepB x with
      | false =>
        have HL : Hid (filt (prK X p) (q + 1) = filt (prK X p) q) := by
          show _ = _
          rw [filt_succ, if_neg]
          rw [HPR.out, hkb]; simp
        clear hkb
        go_wp2
        go_roundw
        case rel => exact ⟨q + 1, by omega, by go_num, by rw [HL.out], hbel1⟩
        case measure => simp [intOf]; omega
      | true =>
        obtain ⟨s0, s1, s2, s3, s4, s5, s6⟩ := S1
        have S1 : Seven w1 bo (oo + q * 7) x := ⟨s0, s1, s2, s3, s4, s5, s6⟩
        by_cases hpe : x.k = p
        · have hprq : prK X p q = true := by rw [HPR.out, hkb]; simp [hpe]
          obtain ⟨g1, g2⟩ := filt_get hlt hprq
          have HL : Hid (filt (prK X p) (q + 1) = filt (prK X p) q ++ [q]) := by
            show _ = _
            rw [filt_succ, if_pos hprq]
          obtain ⟨bg, og, hbg, rfl, hE⟩ := (hG.below hbel1) (by omega)
          have E := (hE _ _ g2).ten1
          rw [HXQ.out] at E
          obtain ⟨e0, e1, e2, e3, e4, e5, e6, e7, e8, e9, e10⟩ := E
          have hb3 : (x.k.toList == p.toList) = true := by simp [hpe]
          have HG1 : Hid ((filt (prK X p) q).length < (filt (prK X p) n).length) := g1
          generalize hlj : (filt (prK X p) q).length = lj at *
          have E : Ten1 w1 bg (og + lj * 11) x := ⟨e0, e1, e2, e3, e4, e5, e6, e7, e8, e9, e10⟩
          have HLJ : Hid ((filt (prK X p) (q + 1)).length = lj + 1) := by
            show _ = _
            rw [HL.out]; simp [hlj]
          have i1 : (0 : Int) ≤ (lj : Int) := by omega
          have i2 : (lj : Int) < ((filt (prK X p) n).length : Int) := by omega
          have i3 : (0 : Int) ≤ (q : Int) := by omega
          have i4 : (q : Int) < (n : Int) := by omega
          have i5 : decide ((filt (prK X p) n).length ≤ lj) = false := by simp; omega
          clear g2 hE hprq hpe hkb hlj HL HPR HXQ hO hG
          go_wp2_with fail
          go_region_held3 (fun w' => w'.cell? ⟨bg, og + lj * 11, none⟩ = some (.int .i64 x.p) ∧ w'.cell? ⟨bg, og + lj * 11 + 1, none⟩ = some (.string x.k) ∧ w'.cell? ⟨bg, og + lj * 11 + 2, none⟩ = some (.int .u8 x.f) ∧ w'.cell? ⟨bg, og + lj * 11 + 3, none⟩ = some (.int .i64 0) ∧ w'.cell? ⟨bg, og + lj * 11 + 4, none⟩ = some (.bool false) ∧ w'.cell? ⟨bg, og + lj * 11 + 5, none⟩ = some (.int .i64 0) ∧ w'.cell? ⟨bg, og + lj * 11 + 6, none⟩ = some (.bool false) ∧ w'.cell? ⟨bg, og + lj * 11 + 7, none⟩ = some (.int .u8 x.o) ∧ w'.cell? ⟨bg, og + lj * 11 + 8, none⟩ = some (.int .i64 x.i) ∧ w'.cell? ⟨bg, og + lj * 11 + 9, none⟩ = some (.int .i64 x.c) ∧ w'.cell? ⟨bg, og + lj * 11 + 10, none⟩ = some (.int .i64 x.t) ∧ w'.cell? ⟨bo, oo + q * 7, none⟩ = some (.int .i64 x.p) ∧ w'.cell? ⟨bo, oo + q * 7 + 1, none⟩ = some (.string x.k) ∧ w'.cell? ⟨bo, oo + q * 7 + 2, none⟩ = some (.int .u8 x.f) ∧ w'.cell? ⟨bo, oo + q * 7 + 3, none⟩ = some (.int .u8 x.o) ∧ w'.cell? ⟨bo, oo + q * 7 + 4, none⟩ = some (.int .i64 x.i) ∧ w'.cell? ⟨bo, oo + q * 7 + 5, none⟩ = some (.int .i64 x.c) ∧ w'.cell? ⟨bo, oo + q * 7 + 6, none⟩ = some (.int .i64 x.t))
            (first | exact eighteen E.drew S1.drew | exact eighteen (E.drew.below (by assumption) hbg) (S1.drew.below (by assumption) hbo1))
            (first | (go_at_call 29; refine (sameOp_any x _).mono ?_; rintro e w2 ⟨rfl, hb2⟩))
          have hbel2 := hbel1.drew.trans (hb2.mono hbel1.size)
          go_wp2
          go_roundw
          case rel => exact ⟨q + 1, by omega, by go_num, by rw [HLJ.out]; go_num, hbel2⟩
          case measure => simp [intOf]; omega
        · have HL : Hid (filt (prK X p) (q + 1) = filt (prK X p) q) := by
            show _ = _
            rw [filt_succ, if_neg]
            rw [HPR.out, hkb]; simp [hpe]
          have hb3 : (x.k.toList == p.toList) = false := strk_ne hpe
          clear hkb
          go_wp2
          go_roundw
          case rel => exact ⟨q + 1, by omega, by go_num, by rw [HL.out], hbel1⟩
          case measure => simp [intOf]; omega
    · obtain rfl : q = n := by omega
      go_wp2
      go_ret
      exact ⟨rfl, hbel⟩

end Go.Proofs.Qxb6603043a
