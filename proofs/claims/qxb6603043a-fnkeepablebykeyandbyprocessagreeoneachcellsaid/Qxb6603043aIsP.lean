import Derived.Test.Qxb6603043aKeep
namespace Go.Proofs.Qxb6603043a
open Go.RowKit Go.Maps
open UF

/-- The eleven cells of a history's operation, one by one. -/
structure Ten1 (w : World) (b o : Nat) (x : B1) : Prop where
  c0 : w.cell? ⟨b, o, none⟩ = some (.int .i64 x.p)
  c1 : w.cell? ⟨b, o + 1, none⟩ = some (.string x.k)
  c2 : w.cell? ⟨b, o + 2, none⟩ = some (.int .u8 x.f)
  c3 : w.cell? ⟨b, o + 3, none⟩ = some (.int .i64 0)
  c4 : w.cell? ⟨b, o + 4, none⟩ = some (.bool false)
  c5 : w.cell? ⟨b, o + 5, none⟩ = some (.int .i64 0)
  c6 : w.cell? ⟨b, o + 6, none⟩ = some (.bool false)
  c7 : w.cell? ⟨b, o + 7, none⟩ = some (.int .u8 x.o)
  c8 : w.cell? ⟨b, o + 8, none⟩ = some (.int .i64 x.i)
  c9 : w.cell? ⟨b, o + 9, none⟩ = some (.int .i64 x.c)
  c10 : w.cell? ⟨b, o + 10, none⟩ = some (.int .i64 x.t)

theorem OpAt.ten1 {w : World} {b o : Nat} {x : B1} (h : OpAt w b o x) : Ten1 w b o x := ⟨h 0 _ rfl, h 1 _ rfl, h 2 _ rfl, h 3 _ rfl, h 4 _ rfl, h 5 _ rfl, h 6 _ rfl, h 7 _ rfl, h 8 _ rfl, h 9 _ rfl, h 10 _ rfl⟩
theorem Ten1.below {w w' : World} {B b o : Nat} {x : B1} (h : Ten1 w b o x) (hb : Below B w w') (hlt : b < B) : Ten1 w' b o x := ⟨(hb.cell (p := ⟨b, o, none⟩) hlt).trans h.c0, (hb.cell (p := ⟨b, o + 1, none⟩) hlt).trans h.c1, (hb.cell (p := ⟨b, o + 2, none⟩) hlt).trans h.c2, (hb.cell (p := ⟨b, o + 3, none⟩) hlt).trans h.c3, (hb.cell (p := ⟨b, o + 4, none⟩) hlt).trans h.c4, (hb.cell (p := ⟨b, o + 5, none⟩) hlt).trans h.c5, (hb.cell (p := ⟨b, o + 6, none⟩) hlt).trans h.c6, (hb.cell (p := ⟨b, o + 7, none⟩) hlt).trans h.c7, (hb.cell (p := ⟨b, o + 8, none⟩) hlt).trans h.c8, (hb.cell (p := ⟨b, o + 9, none⟩) hlt).trans h.c9, (hb.cell (p := ⟨b, o + 10, none⟩) hlt).trans h.c10⟩
theorem Ten1.drew {w : World} {b o : Nat} {x : B1} (h : Ten1 w b o x) : Ten1 w.drew b o x := ⟨h.c0, h.c1, h.c2, h.c3, h.c4, h.c5, h.c6, h.c7, h.c8, h.c9, h.c10⟩
theorem Seven.drew {w : World} {b o : Nat} {x : B1} (h : Seven w b o x) : Seven w.drew b o x := ⟨h.c0, h.c1, h.c2, h.c3, h.c4, h.c5, h.c6⟩
theorem eighteen {w : World} {bg og bo oo : Nat} {x : B1} (E : Ten1 w bg og x) (S : Seven w bo oo x) : w.cell? ⟨bg, og, none⟩ = some (.int .i64 x.p) ∧ w.cell? ⟨bg, og + 1, none⟩ = some (.string x.k) ∧ w.cell? ⟨bg, og + 2, none⟩ = some (.int .u8 x.f) ∧ w.cell? ⟨bg, og + 3, none⟩ = some (.int .i64 0) ∧ w.cell? ⟨bg, og + 4, none⟩ = some (.bool false) ∧ w.cell? ⟨bg, og + 5, none⟩ = some (.int .i64 0) ∧ w.cell? ⟨bg, og + 6, none⟩ = some (.bool false) ∧ w.cell? ⟨bg, og + 7, none⟩ = some (.int .u8 x.o) ∧ w.cell? ⟨bg, og + 8, none⟩ = some (.int .i64 x.i) ∧ w.cell? ⟨bg, og + 9, none⟩ = some (.int .i64 x.c) ∧ w.cell? ⟨bg, og + 10, none⟩ = some (.int .i64 x.t) ∧ w.cell? ⟨bo, oo, none⟩ = some (.int .i64 x.p) ∧ w.cell? ⟨bo, oo + 1, none⟩ = some (.string x.k) ∧ w.cell? ⟨bo, oo + 2, none⟩ = some (.int .u8 x.f) ∧ w.cell? ⟨bo, oo + 3, none⟩ = some (.int .u8 x.o) ∧ w.cell? ⟨bo, oo + 4, none⟩ = some (.int .i64 x.i) ∧ w.cell? ⟨bo, oo + 5, none⟩ = some (.int .i64 x.c) ∧ w.cell? ⟨bo, oo + 6, none⟩ = some (.int .i64 x.t) :=
  ⟨E.c0, E.c1, E.c2, E.c3, E.c4, E.c5, E.c6, E.c7, E.c8, E.c9, E.c10, S.c0, S.c1, S.c2, S.c3, S.c4, S.c5, S.c6⟩

attribute [local go_sem ↓] Go.wp_at_zero Go.wp_at_succ

/-- What 'b1IsKeptOfProcess' looks for. -/
def prP (X : Nat → B1) (p : Int) (i : Nat) : Bool := keepB (X i) && ((X i).p == p)

set_option maxRecDepth 100000 in
set_option maxHeartbeats 4000000 in
theorem isKeptP_any (ag : Option Addr) (capg : Nat) (a1 : Option Addr) (n cap1 : Nat) (X : Nat → B1) (p : Int) (w : World) (hn : n ≤ 65536) (hO : Ops w a1 n X) (hG : OpsV w ag (filt (prP X p) n) X) :
    Calls Try.prog 19 #[.slice ag (filt (prP X p) n).length capg, .slice a1 n cap1, .int .i64 p] w fun e w' => e = .returned (.bool true) ∧ Below w.heap.size w w' := by
  have hgl := filt_length_le (prP X p) n
  go_enter Try.func19, Try.ntmps19
  go_wp2
  go_loopw [7, 8] (fun jv i wr => ∃ q : Nat, q ≤ n ∧ i = .int .i64 q ∧ jv = .int .i64 ((filt (prP X p) q).length : Nat) ∧ Below w.heap.size w wr) (fun _ i _ => n - (intOf i).toNat)
  case atStart => exact ⟨0, by omega, rfl, rfl, Below.refl _ _⟩
  case round =>
    obtain ⟨q, hq, rfl, rfl, hbel⟩ := hrel
    have hql := filt_length_le (prP X p) q
    by_cases hlt : q < n
    · obtain ⟨bo, oo, hbo, rfl, hc⟩ := (hO.below hbel) (by omega)
      have S0 := hc q hlt
      obtain ⟨x, hx⟩ : ∃ x, X q = x := ⟨_, rfl⟩
      have HPR : Hid (prP X p q = (keepB x && (x.p == p))) := by rw [← hx]; rfl
      have HXQ : Hid (X q = x) := hx
      rw [hx] at S0
      obtain ⟨s0, s1, s2, s3, s4, s5, s6⟩ := S0
      have S0 : Seven wr bo (oo + q * 7) x := ⟨s0, s1, s2, s3, s4, s5, s6⟩
      clear hc hx
      go_wp2_with fail
      refine (keepable17 x wr).mono ?_
      rintro e w1 ⟨rfl, hb1⟩
      have S1 := S0.below hb1 hbo
      have hbel1 := hbel.trans (hb1.mono hbel.size)
      have hbo1 := Nat.lt_of_lt_of_le hbo hb1.size
      clear s0 s1 s2 s3 s4 s5 s6 S0
      cases hkb : keepB x with
      | false =>
        have HL : Hid (filt (prP X p) (q + 1) = filt (prP X p) q) := by
          show _ = _
          rw [filt_succ, if_neg]
          rw [HPR.out, hkb]; simp
        clear hkb
        go_wp2
        go_roundw
        case rel => exact ⟨q + 1, by omega, by go_num, by rw [HL.out], hbel1⟩
        case measure => simp [intOf]; omega
      | true =>
        obtain ⟨s0, s1, s2, s3, s4, s5, s6⟩ := S1
        have S1 : Seven w1 bo (oo + q * 7) x := ⟨s0, s1, s2, s3, s4, s5, s6⟩
        by_cases hpe : x.p = p
        · have hprq : prP X p q = true := by rw [HPR.out, hkb]; simp [hpe]
          obtain ⟨g1, g2⟩ := filt_get hlt hprq
          have HL : Hid (filt (prP X p) (q + 1) = filt (prP X p) q ++ [q]) := by
            show _ = _
            rw [filt_succ, if_pos hprq]
          obtain ⟨bg, og, hbg, rfl, hE⟩ := (hG.below hbel1) (by omega)
          have E := (hE _ _ g2).ten1
          rw [HXQ.out] at E
          obtain ⟨e0, e1, e2, e3, e4, e5, e6, e7, e8, e9, e10⟩ := E
          have hb3 : (x.p != p) = false := by simp [hpe]
          have HG1 : Hid ((filt (prP X p) q).length < (filt (prP X p) n).length) := g1
          generalize hlj : (filt (prP X p) q).length = lj at *
          have E : Ten1 w1 bg (og + lj * 11) x := ⟨e0, e1, e2, e3, e4, e5, e6, e7, e8, e9, e10⟩
          have HLJ : Hid ((filt (prP X p) (q + 1)).length = lj + 1) := by
            show _ = _
            rw [HL.out]; simp [hlj]
          have i1 : (0 : Int) ≤ (lj : Int) := by omega
          have i2 : (lj : Int) < ((filt (prP X p) n).length : Int) := by omega
          have i3 : (0 : Int) ≤ (q : Int) := by omega
          have i4 : (q : Int) < (n : Int) := by omega
          have i5 : decide ((filt (prP X p) n).length ≤ lj) = false := by simp; omega
          clear g2 hE hprq hpe hkb hlj HL HPR HXQ hO hG
          go_wp2_with fail
          go_region_held3 (fun w' => w'.cell? ⟨bg, og + lj * 11, none⟩ = some (.int .i64 x.p) ∧ w'.cell? ⟨bg, og + lj * 11 + 1, none⟩ = some (.string x.k) ∧ w'.cell? ⟨bg, og + lj * 11 + 2, none⟩ = some (.int .u8 x.f) ∧ w'.cell? ⟨bg, og + lj * 11 + 3, none⟩ = some (.int .i64 0) ∧ w'.cell? ⟨bg, og + lj * 11 + 4, none⟩ = some (.bool false) ∧ w'.cell? ⟨bg, og + lj * 11 + 5, none⟩ = some (.int .i64 0) ∧ w'.cell? ⟨bg, og + lj * 11 + 6, none⟩ = some (.bool false) ∧ w'.cell? ⟨bg, og + lj * 11 + 7, none⟩ = some (.int .u8 x.o) ∧ w'.cell? ⟨bg, og + lj * 11 + 8, none⟩ = some (.int .i64 x.i) ∧ w'.cell? ⟨bg, og + lj * 11 + 9, none⟩ = some (.int .i64 x.c) ∧ w'.cell? ⟨bg, og + lj * 11 + 10, none⟩ = some (.int .i64 x.t) ∧ w'.cell? ⟨bo, oo + q * 7, none⟩ = some (.int .i64 x.p) ∧ w'.cell? ⟨bo, oo + q * 7 + 1, none⟩ = some (.string x.k) ∧ w'.cell? ⟨bo, oo + q * 7 + 2, none⟩ = some (.int .u8 x.f) ∧ w'.cell? ⟨bo, oo + q * 7 + 3, none⟩ = some (.int .u8 x.o) ∧ w'.cell? ⟨bo, oo + q * 7 + 4, none⟩ = some (.int .i64 x.i) ∧ w'.cell? ⟨bo, oo + q * 7 + 5, none⟩ = some (.int .i64 x.c) ∧ w'.cell? ⟨bo, oo + q * 7 + 6, none⟩ = some (.int .i64 x.t))
            (first | exact eighteen E.drew S1.drew | exact eighteen (E.drew.below (by assumption) hbg) (S1.drew.below (by assumption) hbo1))
            (first | (go_at_call 29; refine (sameOp_any x _).mono ?_; rintro e w2 ⟨rfl, hb2⟩))
          have hbel2 := hbel1.drew.trans (hb2.mono hbel1.size)
          go_wp2
          go_roundw
          case rel => exact ⟨q + 1, by omega, by go_num, by rw [HLJ.out]; go_num, hbel2⟩
          case measure => simp [intOf]; omega
        · have HL : Hid (filt (prP X p) (q + 1) = filt (prP X p) q) := by
            show _ = _
            rw [filt_succ, if_neg]
            rw [HPR.out, hkb]; simp [hpe]
          have hb3 : (x.p != p) = true := by simp [hpe]
          clear hkb
          go_wp2
          go_roundw
          case rel => exact ⟨q + 1, by omega, by go_num, by rw [HL.out], hbel1⟩
          case measure => simp [intOf]; omega
    · obtain rfl : q = n := by omega
      go_wp2
      go_ret
      exact ⟨rfl, hbel⟩

end Go.Proofs.Qxb6603043a
