import Derived.Test.Qxb6603043aSepV
import Derived.Deep.RegionHeld3
import Derived.Deep.RegionLaw
import Derived.Deep.DrawnRows
namespace Go.Proofs.Qxb6603043a
open Go.RowKit Go.Maps
open UF

theorem frozen_later1 {w : World} {b i : Nat} (h : w.frozen? ⟨b, i, none⟩ = false) (hb : b < w.heap.size) (o : Obj) : (w.alloc o).frozen? ⟨b, i, none⟩ = false := by
  rw [World.frozen?_alloc_old w o ⟨b, i, none⟩ (Nat.ne_of_lt hb)]
  exact h

theorem news_one {w : World} {H : Nat} (hH : w.heap.size = H) (x : Value) (t : TypeId) : ∀ j u, [x][j]? = some u → (w.alloc (.cells #[x] t)).cell? ((⟨H, 0, none⟩ : Addr).add j) = some u := by
  subst hH
  exact cell_one_new w x t

theorem grown_undrew {w w' : World} {r : Option Nat} (h : w.drew.grownBy w' r) : w.grownBy w' r := ⟨h.os, h.tape, h.output, h.size, h.block⟩

/-- The eleven cells, one by one. -/
structure Eleven (w : World) (b o : Nat) (x : B1) : Prop where
  c0 : w.cell? ⟨b, o, none⟩ = some (.int .i64 x.p)
  c1 : w.cell? ⟨b, o + 1, none⟩ = some (.string x.k)
  c2 : w.cell? ⟨b, o + 2, none⟩ = some (.int .u8 x.f)
  c3 : w.cell? ⟨b, o + 3, none⟩ = some (.int .i64 0)
  c4 : w.cell? ⟨b, o + 4, none⟩ = some (.bool false)
  c5 : w.cell? ⟨b, o + 5, none⟩ = some (.int .i64 0)
  c6 : w.cell? ⟨b, o + 6, none⟩ = some (.bool false)
  c7 : w.cell? ⟨b, o + 7, none⟩ = some (.int .u8 x.o)
  c8 : w.cell? ⟨b, o + 8, none⟩ = some (.int .i64 x.i)
  c9 : w.cell? ⟨b, o + 9, none⟩ = some (.int .i64 x.c)
  c10 : w.cell? ⟨b, o + 10, none⟩ = some (.int .i64 x.t)

theorem OpAt.eleven {w : World} {b o : Nat} {x : B1} (h : OpAt w b o x) : Eleven w b o x := ⟨h 0 _ rfl, h 1 _ rfl, h 2 _ rfl, h 3 _ rfl, h 4 _ rfl, h 5 _ rfl, h 6 _ rfl, h 7 _ rfl, h 8 _ rfl, h 9 _ rfl, h 10 _ rfl⟩

theorem opsH_at {w w' : World} {a : Option Addr} {n : Nat} {X : Nat → B1} (h : OpsH w a n X) (hb : Below w.heap.size w w') (hp : 0 < n) : ∃ b, a = some ⟨b, 0, none⟩ ∧ b < w.heap.size ∧ ∀ i, i < n → Eleven w' b (i * 11) (X i) := by
  obtain ⟨b, hlt, e, hc⟩ := h hp
  exact ⟨b, e, hlt, fun i hi => ((hc i hi).below hb hlt).eleven⟩

set_option maxRecDepth 100000 in
set_option maxHeartbeats 4000000 in
theorem sep_any (hb n m : Nat) (X : Nat → B1) (K : Nat → ByteArray) (w : World) (hn : n ≤ 65536) (hX : Fit n X) (hH : Hist w hb n m X K) :
    Calls Try.prog 24 #[.pointer (some ⟨hb, 0, none⟩)] w fun e w' => ∃ (R : Nat → Nat) (a : Option Addr) (cap : Nat), e = .returned (.slice a (num R n) cap) ∧ IsLab n (Adj X) R ∧ PartsAt w' a n R ∧ Below w.heap.size w w' := by
  obtain ⟨ao, co, pr, ak, ck, hrow, hO, hK⟩ := hH.row
  have c0 : w.cell? ⟨hb, 0, none⟩ = some (.slice ao n co) := by rw [cell_of_row w hb 0 _ 57 (0, 0) hrow]; rfl
  have hmk := run_make_row' (P := Try.prog) 53 3 (.int .i64 0) 8 Try.underlying53 info3 rfl .i64 .i64 n (by omega) (by omega)
  have hmm := @run_makeMap Try.prog
  have hlt := hH.lt
  have c5 := cell_later5 c0
  clear hrow hK
  go_enter Try.func24, Try.ntmps24
  go_wp2_with fail
  clear c5
  go_loopw [33] (fun i wr => ∃ (k : Nat) (R : Nat → Nat) (F1 : Int → Option Nat) (F2 : ByteArray → Option Nat), k ≤ n ∧ i = .int .i64 k ∧ St w n X w.heap.size k k k R F1 F2 wr) (fun i _ => n - (intOf i).toNat)
  case atStart => exact ⟨0, id, fun _ => none, fun _ => none, by omega, rfl, St.start w n X⟩
  case round =>
    obtain ⟨k, R, F1, F2, hk, rfl, hS⟩ := hrel
    by_cases hkn : k < n
    · obtain ⟨b0, rfl, hb0, hE⟩ := opsH_at hO hS.bel (by omega)
      have E := hE k hkn
      have e0 := E.c0
      have e1 := E.c1
      have e2 := E.c2
      have e3 := E.c3
      have e4 := E.c4
      have e5 := E.c5
      have e6 := E.c6
      have e7 := E.c7
      have e8 := E.c8
      have e9 := E.c9
      have e10 := E.c10
      have g1 : (0 : Int) ≤ (k : Int) := by omega
      have g2 : (k : Int) < (n : Int) := by omega
      have v1 := cell_later1 hS.u.v
      obtain ⟨rt, hR, hF⟩ := hS.u.ex
      have v2 := cell_later1 (hR.cell hkn)
      have v3 := fun o => frozen_later1 (hR.free k) (b := w.heap.size) hR.lt o
      have hpush := fun o => hS.push hkn o
      have hs := hS.m2.lt
      have fp := hX.p k hkn
      have fk := hX.k k hkn
      obtain ⟨x, hx⟩ : ∃ x, X k = x := ⟨_, rfl⟩
      rw [hx] at e0 e1 e2 e7 e8 e9 e10 fp fk
      have HP : Hid (pp X k = x.p) := by unfold pp; rw [hx]; rfl
      have HK : Hid (kk X k = x.k) := by unfold kk; rw [hx]; rfl
      clear hE E hR hF hmk hmm hx
      go_upto_if 49 with (at_lookup; refine wpList_look rfl _ _ 62 rfl law2 Try.underlying62 rfl (hpush _).m1 _ x.p rfl (keyOf_int_mk Try.underlying2 fp) ?_; intro c hc)
      obtain ⟨W2, HW⟩ : ∃ W2, Hid ((wr.alloc (.cells #[.int .i64 x.p, .string x.k, .int .u8 x.f, .int .i64 0, .bool false, .int .i64 0, .bool false, .int .u8 x.o, .int .i64 x.i, .int .i64 x.c, .int .i64 x.t] 50)).setCell ⟨w.heap.size, k, none⟩ (.int .i64 (k : Int)) = W2) := ⟨_, rfl⟩
      have S2 : St w n X w.heap.size k k (k + 1) (upd R k k) F1 F2 W2 := by rw [← HW.out]; exact hpush _
      have hwr : w.heap.size < wr.heap.size := by omega
      have q0 : W2.cell? ⟨wr.heap.size, 0, none⟩ = some (.int .i64 x.p) := by
        rw [← HW.out, World.cell?_setCell_far _ _ _ _ (show w.heap.size ≠ wr.heap.size by omega)]; simp
      have q1 : W2.cell? ⟨wr.heap.size, 1, none⟩ = some (.string x.k) := by
        rw [← HW.out, World.cell?_setCell_far _ _ _ _ (show w.heap.size ≠ wr.heap.size by omega)]; simp
      have hs2 := S2.m2.lt
      have hszW : W2.heap.size = wr.heap.size + 1 := by rw [← HW.out]; simp
      rw [HW.out]
      clear e0 e1 e2 e3 e4 e5 e6 e7 e8 e9 e10 v1 v2 v3 hpush HW
      go_cut [10, 11] (fun _ _ wc => ∃ (R' : Nat → Nat) (F1' : Int → Option Nat), St w n X w.heap.size (k + 1) k (k + 1) R' F1' F2 wc ∧ wc.cell? ⟨wr.heap.size, 1, none⟩ = some (.string x.k))
      case first =>
        cases hF1 : F1 x.p with
        | some j =>
          have HF1 : Hid (F1 (pp X k) = some j) := by rw [HP.out]; exact hF1
          have hcj := hc j hF1
          subst hcj
          obtain ⟨j1, j2⟩ := S2.f1.hits _ _ HF1.out
          clear hc j2
          go_wp2_with fail
          refine (join_any k j (w.heap.size + 1 + 1) (w.heap.size + 1) w.heap.size n (k + 1) (upd R k k) W2 W2 hn (by omega) (by omega) (by omega) (by omega) (by omega) S2.u).mono ?_
          rintro e w3 ⟨rfl, hU⟩
          have S3 := S2.joinP hkn HF1.out hU
          have q2 : w3.cell? ⟨wr.heap.size, 1, none⟩ = some (.string x.k) := (hU.only.cell (p := ⟨wr.heap.size, 1, none⟩) (show wr.heap.size ≠ w.heap.size by omega)).trans q1
          go_wp2_with fail
          go_meet
          case rel => exact ⟨_, F1, S3, q2⟩
        | none =>
          have HF1 : Hid (F1 (pp X k) = none) := by rw [HP.out]; exact hF1
          clear hc
          go_wp2_with (at_mapUpdate; refine wpList_put rfl _ _ _ 62 rfl law2 Try.underlying62 (fun _ _ => litI_inj) rfl S2.m1 (by omega) _ x.p rfl (keyOf_int_mk Try.underlying2 fp) trivial k (by omega) rfl ?_; intro w3 hM hg)
          go_frame
          go_meet
          case rel =>
            rw [← HP.out] at hM
            exact ⟨_, _, S2.newP HF1.out hM hg, hg.cell q1 (ne_some (a := wr.heap.size) (by omega))⟩
      case rest =>
        obtain ⟨R3, F3, S3, q2⟩ := hcut
        clear S2 q0 q1 hc hS
        have hs3 := S3.m2.lt
        go_upto_if 65 with (at_lookup; refine wpList_look rfl _ _ 58 rfl law42 Try.underlying58 rfl S3.m2 _ x.k rfl (WideMaps.keyOf_string_mk Try.underlying42 fk) ?_; intro c2 hc2)
        cases hF2 : F2 x.k with
        | some j =>
          have HF2 : Hid (F2 (kk X k) = some j) := by rw [HK.out]; exact hF2
          have hcj := hc2 j hF2
          subst hcj
          obtain ⟨j1, j2⟩ := S3.f2.hits _ _ HF2.out
          clear hc2 j2
          go_wp2_with fail
          refine (join_any k j (w.heap.size + 1 + 1) (w.heap.size + 1) w.heap.size n (k + 1) R3 wc wc hn (by omega) (by omega) (by omega) (by omega) (by omega) S3.u).mono ?_
          rintro e w3 ⟨rfl, hU⟩
          have S4 := S3.joinK hkn HF2.out hU
          go_wp2_with fail
          go_roundw
          case rel =>
            exact ⟨k + 1, _, F3, F2, by omega, by go_num, S4⟩
          case measure => simp [intOf]; omega
        | none =>
          have HF2 : Hid (F2 (kk X k) = none) := by rw [HK.out]; exact hF2
          clear hc2
          go_wp2_with (at_mapUpdate; refine wpList_put rfl _ _ _ 58 rfl law42 Try.underlying58 (fun _ _ => litS_inj) rfl S3.m2 (by omega) _ x.k rfl (WideMaps.keyOf_string_mk Try.underlying42 fk) trivial k (by omega) rfl ?_; intro w3 hM hg)
          go_wp2_with fail
          go_roundw
          case rel =>
            rw [← HK.out] at hM
            first | exact ⟨k + 1, _, F3, _, by omega, by go_num, S3.newK HF2.out hM hg⟩ | (repeat apply Exists.intro; exact ⟨⟨k + 1, _, F3, _, by omega, by go_num, S3.newK HF2.out hM hg⟩, rfl⟩)
          case measure => simp [intOf]; omega
    · obtain rfl : k = n := by omega
      obtain ⟨we, rfl⟩ : ∃ we : World, we = wr := ⟨_, rfl⟩
      obtain ⟨rt, hR, hF⟩ := hS.u.ex
      have hlab := isLab_of hF hS.conn hS.dp hS.dq
      have HLab : Hid (IsLab k (Adj X) R) := hlab
      have HRR : Hid (∀ i, i < k → R i ≤ i ∧ R (R i) = R i) := fun i hi => ⟨hlab.le i hi, hlab.idem i hi⟩
      have c0' : we.cell? ⟨hb, 0, none⟩ = some (.slice ao k co) := (hS.bel.cell (p := ⟨hb, 0, none⟩) hlt).trans c0
      have c0'' := cell_later1 c0'
      have hs := hS.m2.lt
      obtain ⟨i0, hi0, hz0, hz1, hz2⟩ := info_parts info53
      obtain ⟨j0, hj0, hy0, hy1, hy2⟩ := info_parts info3
      have S0 : St2 w k w.heap.size we.heap.size 0 R (.slice none 0 0) 0 (fun _ => undef) (fun _ => 0) 0 (we.alloc (.cells (madeCells #[.int .i64 0] k) 3)) := by
        refine ⟨hS.u.kept (World.grownBy_alloc _ _ none) (fun e => by cases e) (fun e => by cases e) (fun e => by cases e), Groups.start _ _ _ _ _ _ _ _, ?_, fun j hj => by omega, hS.bel.alloc (by omega) _⟩
        refine ⟨_, heap_alloc_new _ _, size_madeCells _ _, fun i hi => ?_⟩
        have := congrArg (·[i]?) (toList_madeCells_one (.int .i64 0) k)
        simpa [hi] using this
      clear hlab hR hF hS hmm
      go_wp2_with fail
      go_loopw [14, 86] (fun v i wr => ∃ (q : Nat) (a : Option Addr) (cap : Nat) (sp : Nat → Value) (nf : Nat → Int), q ≤ k ∧ i = .int .i64 q ∧ v = .slice a (num R q) cap ∧ St2 w k w.heap.size we.heap.size q R (.slice a (num R q) cap) (num R q) sp nf q wr) (fun _ i _ => k - (intOf i).toNat)
      case atStart => exact ⟨0, none, 0, _, _, by omega, rfl, rfl, S0⟩
      case round =>
        obtain ⟨q, a, cap, sp, nf, hq, rfl, rfl, hT⟩ := hrel
        by_cases hqk : q < k
        · have u1 := hT.u.f
          clear S0 c0'' c0' hmk
          go_wp2_with fail
          refine (find_inv q (w.heap.size + 1 + 1) (w.heap.size + 1) w.heap.size k k R wr wr (Nat.le_refl _) hqk (by omega) (by omega) hT.u).mono ?_
          rintro e w3 ⟨rfl, hU⟩
          have T3 := hT.find (by omega) hU
          have l0 := (HRR.out q hqk).1
          have nl := num_le R q
          clear hT u1 hU
          go_upto_if 94 with (fail)
          go_cut [14] (fun v wc => ∃ (a' : Option Addr) (cap' : Nat) (sp' : Nat → Value) (nf' : Nat → Int), v = .slice a' (num R (q + 1)) cap' ∧ St2 w k w.heap.size we.heap.size q R (.slice a' (num R (q + 1)) cap') (num R (q + 1)) sp' nf' (q + 1) wc)
          case first =>
            by_cases hroot : R q = q
            · have hb1 : ((R q : Int) == (q : Int)) = true := by rw [hroot]; simp
              have HRoot : Hid (R q = q) := hroot
              have hnum := num_root hroot
              have HN : Hid (num R (q + 1) = num R q + 1) := hnum
              have d1 := T3.r.cell hqk
              have d2 := T3.r.free q
              have T4 := T3.number (by omega) hqk
              have g1 : (0 : Int) ≤ (q : Int) := by omega
              have g2 : (q : Int) < (k : Int) := by omega
              have hlt4 := T3.r.lt
              clear hroot hnum
              go_wp2_with (at_builtin; refine wpList_append_lies _ rfl _ _ 51 rfl (we.heap.size + 1) 53 i0 (.slice none 0 0) 1 24 Try.underlying51 hi0 hz0 hz1 hz2 rfl (by omega) (.slice a (num R q) cap) (num R q) _ rfl (T4.g.row.alloc _) ⟨w3.heap.size, 0, none⟩ 1 1 [.slice none 0 0] rfl rfl (news_one (by simp) _ _) (by simp [Value.oneCell']) (by omega) (by rw [maxLen_is]; omega) (by omega) (by simp; omega) (w3.heap.size + 1) (by simp) ?_; intro g cap1 w1 hown hgrow hat hlt1)
              have T5 := T4.push (by omega) (fun i hi => HRR.out i (by omega)) _ hown hgrow (by simpa using hat)
              go_meet
              case rel =>
                rw [HN.out]
                exact ⟨_, _, _, _, rfl, T5⟩
            · have hb1 : ((R q : Int) == (q : Int)) = false := by rw [beq_eq_false_iff_ne]; omega
              have HN : Hid (num R (q + 1) = num R q) := num_other hroot
              have T4 := T3.skip hroot
              clear hroot
              go_wp2_with fail
              go_meet
              case rel =>
                rw [HN.out]
                exact ⟨_, _, _, _, rfl, T4⟩
          case rest =>
            obtain ⟨a', cap', sp', nf', rfl, T5⟩ := hcut
            have hRR := HRR.out q hqk
            have hnl := num_lt hRR.1 hRR.2
            have hnq := num_le R (q + 1)
            obtain ⟨pg, pcap, ev, hpg, hpg2⟩ := T5.g.shape (by omega)
            obtain ⟨rfl, rfl⟩ : a' = some ⟨pg, 0, none⟩ ∧ cap' = pcap := by simpa using ev
            have x1 := T5.r.cell (i := R q) (by omega)
            have x1' : wc.cell? ⟨we.heap.size, R q, none⟩ = some (.int .i64 (num R (R q) : Int)) := by
              rw [x1, T5.f (R q) (by omega) hRR.2]
            obtain ⟨pn, HPN⟩ : ∃ pn, Hid (pn = num R (R q)) := ⟨_, rfl⟩
            have x2 := T5.g.cell hnl
            have x3 := T5.g.row.frozenAt (num R (R q))
            have x4 := T5.g.each _ hnl
            have hpl := partL_length_le R q (num R (R q))
            have x5 : (sp' (num R (R q))).ownBlock ≠ some pg := fun e => T5.g.out _ hnl pg e rfl
            have x6 : (sp' (num R (R q))).ownBlock ≠ some we.heap.size := fun e => by have := (x4.lt _ e).1; omega
            have hwl := T5.r.lt
            have TA := fun o g cap w1 h1 h2 h3 => T5.app (w1 := w1) (g := g) (cap := cap) (by omega) hnl o h1 h2 h3
            have hnq' : pn < num R (q + 1) := by rw [HPN.out]; exact hnl
            have hpl' : lI R q pn ≤ q := by rw [HPN.out]; exact hpl
            rw [← HPN.out] at x1' x2 x3 x4 x5 x6 TA
            generalize sp' pn = sv at x2 x4 x5 x6 TA
            have i1 : (0 : Int) ≤ (R q : Int) := by omega
            have i2 : (R q : Int) < (k : Int) := by omega
            have i3 : (0 : Int) ≤ (pn : Int) := by omega
            have i4 : (pn : Int) < (num R (q + 1) : Int) := by omega
            clear T5 T3 x1 hpl HRR HLab
            go_wp2_with fail
            have y1 := cell_later1 x1'
            have y2 := cell_later1 x2
            have y3 := frozen_later1 x3 hpg2
            go_region_law ((refine step_append_lies _ (by rfl) _ _ _ (by rfl) (we.heap.size + 1) 3 j0 (.int .i64 0) 1 8 Try.underlying53 hj0 hy0 hy1 hy2 rfl (by omega) sv (lI R q pn) (gI R q pn) (by rfl) ((x4.alloc _)) ⟨wc.heap.size, 0, none⟩ 1 1 [.int .i64 (q : Int)] (by rfl) (by rfl) (cell_one_new wc _ _) (by simp [Value.oneCell']) (by omega) (by rw [maxLen_is]; omega) (by omega) (by simp; omega) (wc.heap.size + 1) (by simp) ?_; intro g cap1 w1 hown hgrow hat hlt1; have z1 := hgrow.cell (cell_later1 x1' _) (Ne.symm x6); have z2 := hgrow.cell (cell_later1 x2 _) (Ne.symm x5); have z3 := (hgrow.frozen_far ⟨pg, pn, none⟩ (by simp; omega) (Ne.symm x5)).trans (frozen_later1 x3 hpg2 _)))
            all_goals
              have TB := TA _ g cap1 w1 hown (grown_undrew hgrow) hat
              clear TA x1' x2 x3 x4 y1 y2 y3 z1 z2 z3 hown hgrow hat
              go_wp2_with fail
              go_roundw
              case rel => first | exact ⟨q + 1, _, _, _, _, by omega, by go_num, rfl, TB⟩ | (repeat apply Exists.intro; exact ⟨⟨q + 1, _, _, _, _, by omega, by go_num, rfl, TB⟩, rfl⟩)
              case measure => simp [intOf]; omega
        · obtain rfl : q = k := by omega
          go_wp2_with fail
          go_ret
          exact ⟨R, a, cap, rfl, HLab.out, hT.g.parts, hT.bel⟩

end Go.Proofs.Qxb6603043a
