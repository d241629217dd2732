import Derived.Test.Qxb6603043aProcV
import Derived.Deep.DeepCutAuto
import Derived.Deep.RegionLaw
namespace Go.Proofs.Qxb6603043a
open Go.RowKit Go.Maps
open UF

theorem opsH_ten {w w' : World} {a : Option Addr} {n : Nat} {X : Nat → B1} (h : OpsH w a n X) (hb : Below w.heap.size w w') (hp : 0 < n) : ∃ b, a = some ⟨b, 0, none⟩ ∧ b < w.heap.size ∧ ∀ i, i < n → Ten1 w' b (i * 11) (X i) := by
  obtain ⟨b, hlt, e, hc⟩ := h hp
  exact ⟨b, e, hlt, fun i hi => ((hc i hi).below hb hlt).ten1⟩

theorem later1 {w : World} {a : Addr} {v : Value} (h : w.cell? a = some v) (o : Obj) : (w.alloc o).cell? a = some v := (World.cell?_alloc_lt w o a (World.block_lt_of_cell? _ _ h)).trans h
theorem frozen1 {w : World} {b i : Nat} (h : w.frozen? ⟨b, i, none⟩ = false) (hb : b < w.heap.size) (o : Obj) : (w.alloc o).frozen? ⟨b, i, none⟩ = false := by
  rw [World.frozen?_alloc_old w o ⟨b, i, none⟩ (Nat.ne_of_lt hb)]
  exact h
theorem undrew1 {w w' : World} {r : Option Nat} (h : w.drew.grownBy w' r) : w.grownBy w' r := ⟨h.os, h.tape, h.output, h.size, h.block⟩
theorem news1 {w : World} {H : Nat} (hH : w.heap.size = H) (x : Value) (t : TypeId) : ∀ j u, [x][j]? = some u → (w.alloc (.cells #[x] t)).cell? ((⟨H, 0, none⟩ : Addr).add j) = some u := by
  subst hH
  exact cell_one_new w x t

theorem Ten1.kept {w w' : World} {b o : Nat} {x : B1} {row : Option Nat} (h : Ten1 w b o x) (hg : w.grownBy w' row) (hne : some b ≠ row) : Ten1 w' b o x := ⟨hg.cell h.c0 hne, hg.cell h.c1 hne, hg.cell h.c2 hne, hg.cell h.c3 hne, hg.cell h.c4 hne, hg.cell h.c5 hne, hg.cell h.c6 hne, hg.cell h.c7 hne, hg.cell h.c8 hne, hg.cell h.c9 hne, hg.cell h.c10 hne⟩

/-- The op that a round copies lies in a block of its own. -/
theorem ten_new (w : World) (x : B1) : Ten1 (w.alloc (.cells #[.int .i64 x.p, .string x.k, .int .u8 x.f, .int .i64 0, .bool false, .int .i64 0, .bool false, .int .u8 x.o, .int .i64 x.i, .int .i64 x.c, .int .i64 x.t] 50)) w.heap.size 0 x := by
  constructor <;> simp

set_option maxRecDepth 100000 in
set_option maxHeartbeats 4000000 in
theorem byProc_any (hb n m : Nat) (X : Nat → B1) (K : Nat → ByteArray) (w : World) (hn : n ≤ 65536) (hX : Fit n X) (hH : Hist w hb n m X K) :
    Calls Try.prog 16 #[.pointer (some ⟨hb, 0, none⟩)] w fun e w' => ∃ (a : Option Addr) (cap : Nat), e = .returned (.slice a (names (kB X) (pB X) n).length cap) ∧ GrpsP w' a (names (kB X) (pB X) n) n X ∧ Below w.heap.size w w' := by
  obtain ⟨ao, co, pr, ak, ck, hrow, hO, hK⟩ := hH.row
  have c0 : w.cell? ⟨hb, 0, none⟩ = some (.slice ao n co) := by rw [cell_of_row w hb 0 _ 57 (0, 0) hrow]; rfl
  have hmm := @run_makeMap Try.prog
  have hlt := hH.lt
  have c5 := later1 c0
  obtain ⟨i0, hi0, hz0, hz1, hz2⟩ := info_parts info32
  obtain ⟨j0, hj0, hy0, hy1, hy2⟩ := info_parts info50
  clear hrow hK
  go_enter Try.func16, Try.ntmps16
  go_wp2_with fail
  clear c5
  go_loopw [4, 15] (fun v i wr => ∃ (k : Nat) (a : Option Addr) (cap : Nat) (sp : Nat → Value) (F : Int → Option Nat), k ≤ n ∧ i = .int .i64 k ∧ v = .slice a (names (kB X) (pB X) k).length cap ∧ St3 w X w.heap.size k (names (kB X) (pB X) k) k (.slice a (names (kB X) (pB X) k).length cap) sp F wr) (fun _ i _ => n - (intOf i).toNat)
  case atStart => exact ⟨0, none, 0, fun _ => undef, fun _ => none, by omega, rfl, rfl, ⟨MapIs.made _ _ _, Idx.start, Groups.start _ _ _ _ _ _ _ _, (Below.refl _ _).alloc (Nat.le_refl _) _⟩⟩
  case round =>
    obtain ⟨k, a, cap, sp, F, hk, rfl, rfl, hS⟩ := hrel
    have hnl := names_length_le (kB X) (pB X) k
    by_cases hkn : k < n
    · obtain ⟨b0, rfl, hb0, hE⟩ := opsH_ten hO hS.bel (by omega)
      have E := hE k hkn
      obtain ⟨x, hx⟩ : ∃ x, X k = x := ⟨_, rfl⟩
      rw [hx] at E
      have fp := hX.p k hkn
      rw [hx] at fp
      have HX : Hid (X k = x) := hx
      obtain ⟨e0, e1, e2, e3, e4, e5, e6, e7, e8, e9, e10⟩ := E
      have g1 : (0 : Int) ≤ (k : Int) := by omega
      have g2 : (k : Int) < (n : Int) := by omega
      clear hE hx hmm
      go_wp2_with fail
      refine (keepable28 x _).mono ?_
      rintro e w2 ⟨rfl, hb2⟩
      have T := ten_new wr x
      have T2 := T.below hb2 (by simp)
      have S2 := (hS.kept ((Below.refl _ _).alloc (Nat.le_refl _) (.cells #[.int .i64 x.p, .string x.k, .int .u8 x.f, .int .i64 0, .bool false, .int .i64 0, .bool false, .int .u8 x.o, .int .i64 x.i, .int .i64 x.c, .int .i64 x.t] 50))).kept hb2
      have hsz := hb2.size
      simp at hsz
      have hml := hS.m.lt
      have hvl : ∀ b, (Value.slice a (names (kB X) (pB X) k).length cap).ownBlock = some b → b < wr.heap.size := fun b e => (hS.g.row.lt b e).2
      clear e0 e1 e2 e3 e4 e5 e6 e7 e8 e9 e10 T hS hb2
      cases hkb : keepB x with
      | false =>
        have S3 := S2.skip (by rw [HX.out]; exact hkb)
        have HN : Hid (names (kB X) (pB X) (k + 1) = names (kB X) (pB X) k) := names_old (fun h => by
          have : kB X k = false := by unfold kB; rw [HX.out]; exact hkb
          rw [this] at h
          cases h)
        clear hkb
        go_wp2
        go_roundw
        case rel =>
          refine ⟨k + 1, a, cap, sp, F, by omega, by go_num, by rw [HN.out], ?_⟩
          rw [HN.out]
          exact S3
        case measure => simp [intOf]; omega
      | true =>
        have HKB : Hid (keepB (X k) = true) := by rw [HX.out]; exact hkb
        clear hkb
        have hmb := S2.m.lt
        obtain ⟨t0, t1, t2, t3, t4, t5, t6, t7, t8, t9, t10⟩ := T2
        have T2 : Ten1 w2 wr.heap.size 0 x := ⟨t0, t1, t2, t3, t4, t5, t6, t7, t8, t9, t10⟩
        clear t1 t2 t3 t4 t5 t6 t7 t8 t9 t10
        go_upto_if 30 with (at_lookup; refine wpList_look rfl _ _ 62 rfl law2 Try.underlying62 rfl S2.m _ x.p rfl (keyOf_int_mk Try.underlying2 fp) ?_; intro c hc)
        go_cut [4, 7, 8] (fun v pv _ wc => ∃ (a' : Option Addr) (cap' : Nat) (sp' : Nat → Value) (F' : Int → Option Nat) (q : Nat), v = .slice a' (names (kB X) (pB X) (k + 1)).length cap' ∧ pv = .int .i64 q ∧ Hid ((names (kB X) (pB X) (k + 1))[q]? = some x.p) ∧ St3 w X w.heap.size (k + 1) (names (kB X) (pB X) (k + 1)) k (.slice a' (names (kB X) (pB X) (k + 1)).length cap') sp' F' wc ∧ Ten1 wc wr.heap.size 0 x)
        case first =>
          cases hF : F x.p with
          | some j =>
            have HJ : Hid ((names (kB X) (pB X) k)[j]? = some x.p) := (S2.ix x.p j).1 hF
            have hcj := hc j hF
            subst hcj
            have HN : Hid (names (kB X) (pB X) (k + 1) = names (kB X) (pB X) k) := names_old (fun _ => by
              have := List.mem_of_getElem? HJ.out
              unfold pB
              rw [HX.out]
              exact this)
            have S3 := S2.m.mono (Nat.le_succ _)
            go_wp2_with fail
            go_meet
            case rel =>
              rw [HN.out]
              exact ⟨a, cap, sp, F, j, rfl, rfl, HJ, ⟨S3, S2.ix, S2.g, S2.bel⟩, T2⟩
          | none =>
            have hnot : x.p ∉ names (kB X) (pB X) k := fun hm => by
              obtain ⟨q, hq⟩ := List.getElem?_of_mem hm
              have := (S2.ix x.p q).2 hq
              rw [hF] at this
              cases this
            have HN : Hid (names (kB X) (pB X) (k + 1) = names (kB X) (pB X) k ++ [x.p]) := by
              have h1 : kB X k = true := HKB.out
              have h2 : pB X k = x.p := by unfold pB; rw [HX.out]
              show _ = _
              rw [← h2]
              exact names_new h1 (by rw [h2]; exact hnot)
            have HE : Hid (filt (prP X x.p) k = []) := filt_nil (fun i hi => by
              cases hp : prP X x.p i with
              | false => rfl
              | true =>
                exfalso
                unfold prP at hp
                simp only [Bool.and_eq_true, beq_iff_eq] at hp
                have := names_mem (kp := kB X) (P := pB X) hi hp.1
                have e : pB X i = x.p := hp.2
                rw [e] at this
                exact hnot this)
            have HNot : Hid (x.p ∉ names (kB X) (pB X) k) := hnot
            clear hnot hc
            go_wp2_with (first | (at_mapUpdate; refine wpList_put rfl _ _ _ 62 rfl law2 Try.underlying62 (fun _ _ => litI_inj) rfl S2.m (by omega) _ x.p rfl (keyOf_int_mk Try.underlying2 fp) trivial (names (kB X) (pB X) k).length (by omega) rfl ?_; intro w3 hM hg) | (at_builtin; refine wpList_append_lies _ rfl _ _ 29 rfl (w.heap.size + 1) 32 i0 (.slice none 0 0) 1 24 Try.underlying29 hi0 hz0 hz1 hz2 rfl (by omega) (.slice a (names (kB X) (pB X) k).length cap) (names (kB X) (pB X) k).length _ rfl ((S2.g.kept hg (fun k e => by cases e; omega)).row.alloc _) ⟨w3.heap.size, 0, none⟩ 1 1 [.slice none 0 0] rfl rfl (news1 rfl _ _) (by simp [Value.oneCell']) (by omega) (by rw [maxLen_is]; omega) (by omega) (by have := hg.size; simp; omega) (w3.heap.size + 1) (by simp) ?_; intro g cap1 w4 hown hgrow hat hlt1))
            have S3 := S2.name HNot.out HE.out hM hg _ hown hgrow hat
            have hg4 := (World.grownBy_alloc w3 (.cells #[.slice none 0 0] 32) (Value.slice a (names (kB X) (pB X) k).length cap).ownBlock).trans hgrow
            go_meet
            case rel =>
              have el : (names (kB X) (pB X) k ++ [x.p]).length = (names (kB X) (pB X) k).length + 1 := by simp
              rw [HN.out, el]
              exact ⟨_, _, _, _, (names (kB X) (pB X) k).length, rfl, rfl, by simp [Hid], S3, (T2.kept hg (ne_some (by omega))).kept hg4 (fun e => by have := hvl _ e.symm; omega)⟩
        case rest =>
          obtain ⟨a', cap', sp', F', q, rfl, rfl, HQ, S4, T4⟩ := hcut
          have HND : Hid ((names (kB X) (pB X) (k + 1)).Nodup) := names_nodup _ _ _
          have hnl2 := names_length_le (kB X) (pB X) (k + 1)
          generalize hNN : names (kB X) (pB X) (k + 1) = NN at *
          have HNN : Hid (names (kB X) (pB X) (k + 1) = NN) := hNN
          clear hNN
          have hql : q < NN.length := (List.getElem?_eq_some_iff.1 HQ.out).1
          obtain ⟨pg, pcap, ev, hpg, hpg2⟩ := S4.g.shape (by omega)
          obtain ⟨rfl, rfl⟩ : a' = some ⟨pg, 0, none⟩ ∧ cap' = pcap := by simpa using ev
          have x2 := S4.g.cell hql
          have x3 := S4.g.row.frozenAt q
          have x4 := S4.g.each _ hql
          have hpl := filt_length_le (prP X (NN.getD q 0)) k
          have x5 : (sp' q).ownBlock ≠ some pg := fun e => S4.g.out _ hql pg e rfl
          have TA := fun o g cap w1 h1 h2 h3 => S4.app (w1 := w1) (g := g) (cap := cap) HND.out (by rw [HX.out]; exact HQ.out) HKB.out o h1 h2 h3
          rw [HX.out] at TA
          have hpl' : lP X NN k q ≤ k := hpl
          have hml4 := S4.m.lt
          obtain ⟨t0, t1, t2, t3, t4, t5, t6, t7, t8, t9, t10⟩ := T4
          generalize sp' q = sv at x2 x4 x5 TA
          have y2 := later1 x2
          have y3 := frozen1 x3 hpg2
          have i3 : (0 : Int) ≤ (q : Int) := by omega
          have i4 : (q : Int) < (NN.length : Int) := by omega
          clear S4 S2 hpl hc HND HQ
          go_wp2_with fail
          go_region_law ((refine step_append_lies _ (by rfl) _ _ _ (by rfl) (w.heap.size + 1) 50 j0 _ 11 96 Try.underlying32 hj0 hy0 hy1 hy2 rfl (by omega) sv (lP X NN k q) (gP X NN k q) (by rfl) ((x4.alloc _)) ⟨wc.heap.size, 0, none⟩ 1 1 (cellsOp x) (by rfl) (by rfl) (World.news_of_block (cs := #[.int .i64 x.p, .string x.k, .int .u8 x.f, .int .i64 0, .bool false, .int .i64 0, .bool false, .int .u8 x.o, .int .i64 x.i, .int .i64 x.c, .int .i64 x.t]) (t := 50) (fr := (0, 0)) (heap_alloc_new wc _)) (by simp [cellsOp, Value.oneCell']) (by omega) (by rw [maxLen_is]; omega) (by omega) (by simp; omega) (wc.heap.size + 1) (by simp) ?_; intro g cap1 w1 hown hgrow hat hlt1; have z2 := hgrow.cell (later1 x2 _) (Ne.symm x5); have z3 := (hgrow.frozen_far ⟨pg, q, none⟩ (by simp; omega) (Ne.symm x5)).trans (frozen1 x3 hpg2 _)))
          all_goals
            have TB := TA _ g cap1 w1 hown (undrew1 hgrow) hat
            rw [← HNN.out] at TB
            clear TA x2 x3 x4 y2 y3 z2 z3 hown hgrow hat
            go_wp2_with fail
            go_roundw
            case rel =>
              rw [← HNN.out]
              first | exact ⟨k + 1, _, _, _, _, by omega, by go_num, rfl, TB⟩ | (repeat apply Exists.intro; exact ⟨⟨k + 1, _, _, _, _, by omega, by go_num, rfl, TB⟩, rfl⟩)
            case measure => simp [intOf]; omega
    · obtain rfl : k = n := by omega
      go_wp2
      go_ret
      exact ⟨a, cap, rfl, hS.g.grpsP, hS.bel⟩

end Go.Proofs.Qxb6603043a
