import Derived.Test.Qxb6603043aKeyS
import Derived.Test.Qxb6603043aProcW
import Derived.Deep.DeepCutAuto
import Derived.Deep.RegionLaw
namespace Go.Proofs.Qxb6603043a
open Go.RowKit Go.Maps
open UF

theorem step_room {P : Program} {ops : Array Oper} {o : Oper} {a : Act} {w : World} {K : Act → World → Prop} {Q : Exit → Act → World → Prop} {E : Prop}
    (hg : o.guard = none) (s x : Operand) (t : TypeId) (hop : o.op = Op.call { callee := Callee.builtin Builtin.append, args := #[s, x], argTypes := #[t, t] })
    (e : TypeId) (i : TypeInfo) (size : Nat) (h1 : P.underlying t = some (.slice e)) (h2 : P.info? e = some i) (h4 : i.size = size)
    (b off n cap : Nat) (hs : a.eval s = .slice (some ⟨b, off, none⟩) n cap)
    (ad : Addr) (m c : Nat) (news : List Value) (hx : a.eval x = .slice (some ad) m c) (hn : news.length = m * size) (hc : ∀ j u, news[j]? = some u → w.cell? (ad.add j) = some u) (h1c : ∀ u ∈ news, u.oneCell' = true)
    (hroom : n + m ≤ cap) (hspare : ∀ j, j < news.length → (w.cell? ⟨b, off + n * size + j, none⟩).isSome = true ∧ w.frozen? ⟨b, off + n * size + j, none⟩ = false)
    (hK : ∀ w1, Hid (w1 = w.setCells b (off + n * size) news) → K (a.put o.dst (.slice (some ⟨b, off, none⟩) (n + m) cap)) w1) :
    if Region.wanted o (yielded ops a.tmps) = true then Oper.wp P o a w K Q else E :=
  step_append_room hg s x t hop e i size h1 h2 h4 b off n cap hs ad m c news hx hn hc h1c hroom hspare (hK _ rfl)

set_option maxRecDepth 100000 in
set_option maxHeartbeats 4000000 in
theorem byKey_any (hb n m : Nat) (X : Nat → B1) (K : Nat → ByteArray) (w : World) (hn : n ≤ 65536) (hm : m ≤ 65536) (hX : Fit n X) (hKf : FitK m K) (hcov : ∀ i, i < n → keepB (X i) = true → ∃ j, j < m ∧ K j = (X i).k) (hH : Hist w hb n m X K) :
    Calls Try.prog 12 #[.pointer (some ⟨hb, 0, none⟩)] w fun e w' => ∃ (a : Option Addr) (cap : Nat) (F : ByteArray → Option Nat) (kap : Nat → Nat), e = .returned (.slice a m cap) ∧ Lasts m K F ∧ (∀ i, i < n → kB X i = true → F (X i).k = some (kap i)) ∧ GrpsK w' a m (grp X kap n) X ∧ Below w.heap.size w w' := by
  have hH0 := hH
  obtain ⟨ao, co, pr, ak, ck, hrow, hO, hK⟩ := hH.row
  have c0 : w.cell? ⟨hb, 0, none⟩ = some (.slice ao n co) := by rw [cell_of_row w hb 0 _ 57 (0, 0) hrow]; rfl
  have c2 : w.cell? ⟨hb, 2, none⟩ = some (.slice ak m ck) := by rw [cell_of_row w hb 2 _ 57 (0, 0) hrow]; rfl
  have hmk := run_make_row' (P := Try.prog) 53 3 (.int .i64 0) 8 Try.underlying53 info3 rfl .i64 .i64 n (by omega) (by omega)
  have hmk2 := run_make_row' (P := Try.prog) 53 3 (.int .i64 0) 8 Try.underlying53 info3 rfl .i64 .i64 m (by omega) (by omega)
  have hlt := hH.lt
  obtain ⟨j0, hj0, hy0, hy1, hy2⟩ := info_parts info50
  clear hrow hK
  go_enter Try.func12, Try.ntmps12
  go_wp2_with fail
  refine (keyIndex_any hb n m X K w hm hKf hH0).mono ?_
  rintro e w1 ⟨mb, F, rfl, hmb, hM, hL, hb1⟩
  have d0 : w1.cell? ⟨hb, 0, none⟩ = some (.slice ao n co) := (hb1.cell (p := ⟨hb, 0, none⟩) hlt).trans c0
  have d2 : w1.cell? ⟨hb, 2, none⟩ = some (.slice ak m ck) := (hb1.cell (p := ⟨hb, 2, none⟩) hlt).trans c2
  have d0' := later1 d0
  have d2' := later1 d2
  have d0'' := fun o1 o2 => later1 (d0' o1) o2
  obtain ⟨kap, HK⟩ : ∃ kap : Nat → Nat, Hid (∀ i, i < n → kB X i = true → F (X i).k = some (kap i)) := by
    refine ⟨fun i => (F (X i).k).getD 0, fun i hi h => ?_⟩
    obtain ⟨j, hj, e⟩ := hcov i hi h
    obtain ⟨q, hq⟩ := hL.some_of hj e
    show F (X i).k = some ((F (X i).k).getD 0)
    rw [hq]
    rfl
  have S0 := SK.start (n := n) X kap hM hmb hb1
  clear hcov hH hH0 hM
  go_wp2_with fail
  clear d0' d2' d0'' d0 d2 hmk hmk2
  go_loopw [6, 36] (fun v i wr => ∃ (k : Nat), k ≤ n ∧ i = .int .i64 k ∧ v = .int .i64 ((filt (kB X) k).length : Int) ∧ SK w n m mb w1.heap.size (w1.heap.size + 1) F (kfK X kap k) (cfK X kap k) wr) (fun _ i _ => n - (intOf i).toNat)
  case atStart => exact ⟨0, by omega, rfl, rfl, S0⟩
  case round =>
    obtain ⟨k, hk, rfl, rfl, hS⟩ := hrel
    have hfl := filt_length_le (kB X) k
    by_cases hkn : k < n
    · obtain ⟨b0, rfl, hb0, hE⟩ := opsH_ten hO hS.bel (by omega)
      have E := hE k hkn
      obtain ⟨x, hx⟩ : ∃ x, X k = x := ⟨_, rfl⟩
      rw [hx] at E
      have fk := hX.k k hkn
      rw [hx] at fk
      have HX : Hid (X k = x) := hx
      obtain ⟨e0, e1, e2, e3, e4, e5, e6, e7, e8, e9, e10⟩ := E
      have g1 : (0 : Int) ≤ (k : Int) := by omega
      have g2 : (k : Int) < (n : Int) := by omega
      have hkl := hS.kr.lt
      have k1 := later1 (hS.kr.cell hkn)
      have k2 := frozen1 (hS.kr.free k) hkl
      clear hE hx
      go_wp2_with fail
      refine (keepable28 x _).mono ?_
      rintro e w2 ⟨rfl, hb2⟩
      have S1 := (hS.setk hkn (-1)).grow (World.grownBy_alloc _ (.cells #[.int .i64 x.p, .string x.k, .int .u8 x.f, .int .i64 0, .bool false, .int .i64 0, .bool false, .int .u8 x.o, .int .i64 x.i, .int .i64 x.c, .int .i64 x.t] 50) none)
      have S2 := S1.grow ⟨hb2.os, hb2.tape, hb2.output, hb2.size, fun k hk _ => hb2.block k hk⟩
      have T1 := ten_new (wr.setCell ⟨w1.heap.size, k, none⟩ (.int .i64 (-1))) x
      have T2 := T1.below hb2 (by simp)
      rw [show (wr.setCell ⟨w1.heap.size, k, none⟩ (.int .i64 (-1))).heap.size = wr.heap.size from by simp] at T2
      clear e0 e1 e2 e3 e4 e5 e6 e7 e8 e9 e10 hS hb2 k1 k2 S1 T1
      cases hkb : keepB x with
      | false =>
        have HB : Hid (kB X k = false) := by unfold kB; rw [HX.out]; exact hkb
        have HN : Hid (filt (kB X) (k + 1) = filt (kB X) k) := by
          unfold Hid
          rw [filt_succ, if_neg (by rw [HB.out]; simp)]
        have S3' := S2
        rw [kf_skip HB.out, cf_skip HB.out] at S3'
        clear hkb S2
        go_wp2
        go_roundw
        case rel => exact ⟨k + 1, by omega, by go_num, by rw [HN.out], S3'⟩
        case measure => simp [intOf]; omega
      | true =>
        have HB : Hid (kB X k = true) := by unfold kB; rw [HX.out]; exact hkb
        have HN : Hid (filt (kB X) (k + 1) = filt (kB X) k ++ [k]) := by
          unfold Hid
          rw [filt_succ, if_pos HB.out]
        obtain ⟨q, hq⟩ : ∃ q, kap k = q := ⟨_, rfl⟩
        have hF := HK.out k hkn HB.out
        rw [HX.out, hq] at hF
        have HQ : Hid (kap k = q) := hq
        have hqm := (hL.hits _ _ hF).1
        have s1 := S2.kr.cell hkn
        have s2 := S2.kr.free k
        have s3 : w2.cell? ⟨w1.heap.size + 1, q, none⟩ = some (.int .i64 ((cn X kap k q : Nat) : Int)) := S2.cr.cell hqm
        have s4 := S2.cr.free q
        have hcn : cn X kap k q ≤ k := filt_length_le _ k
        have S3' := (S2.setk hkn (q : Int)).setc hqm ((cn X kap k q : Int) + 1)
        rw [← HQ.out, kf_hit HB.out, cf_hit HB.out, HQ.out] at S3'
        have t1 := T2.c1
        have g3 : (0 : Int) ≤ (q : Int) := by omega
        have g4 : (q : Int) < (m : Int) := by omega
        clear hkb hq T2
        go_wp2_with (at_lookup; refine wpList_look1 rfl _ _ 58 rfl law42 Try.underlying58 rfl S2.ix _ x.k rfl (WideMaps.keyOf_string_mk Try.underlying42 fk) q hF ?_)
        go_roundw
        case rel => exact ⟨k + 1, by omega, by go_num, by rw [HN.out]; simp, S3'⟩
        case measure => simp [intOf]; omega
    · obtain rfl : n = k := by omega
      obtain ⟨wA, rfl⟩ : ∃ wA, wA = wr := ⟨_, rfl⟩
      have hH3 : wA.cell? ⟨hb, 2, none⟩ = some (.slice ak m ck) := (hS.bel.cell (p := ⟨hb, 2, none⟩) hlt).trans c2
      have hH4 := later1 hH3
      obtain ⟨tot, htot⟩ : ∃ tot, (filt (kB X) n).length = tot := ⟨_, rfl⟩
      have HT : Hid (sumTo (cn X kap n) m = tot) := (sum_groups (kB X) kap m n (fun i hi h => (hL.hits _ _ (HK.out i hi h)).1)).trans htot
      have hmk3 := run_make32 tot (by omega)
      have hmk4 := run_make_row' (P := Try.prog) 29 32 (.slice none 0 0) 24 Try.underlying29 info32 rfl .i64 .i64 m (by omega) (by omega)
      have S4 := S3.start (tot := tot) hS (cellsOp ⟨0, ByteArray.empty, 0, 0, 0, 0, 0⟩).toArray
      have hsz := hS.bel.size
      rw [htot] at hfl ⊢
      clear hS hkn S0
      go_wp2_with fail
      clear hmk3 hmk4 hH3 hH4
      go_loopw [11, 75] (fun v i wr2 => ∃ (q : Nat), q ≤ m ∧ i = .int .i64 q ∧ v = .int .i64 ((sumTo (cn X kap n) q : Nat) : Int) ∧ S3 w n m tot w1.heap.size (w1.heap.size + 1) wA.heap.size (wA.heap.size + 1) X kap (rv2 wA.heap.size (cn X kap n) q) (grp X kap 0) wr2) (fun _ i _ => m - (intOf i).toNat)
      case atStart => exact ⟨0, by omega, rfl, rfl, S4⟩
      case round =>
        obtain ⟨q, hq, rfl, rfl, hS⟩ := hrel
        by_cases hqm : q < m
        · have s1 : wr.cell? ⟨w1.heap.size + 1, q, none⟩ = some (.int .i64 ((cn X kap n q : Nat) : Int)) := hS.cr.cell hqm
          have s2 := hS.r.cell hqm
          have s3 := hS.r.free q
          have hsm := sumTo_mono (cn X kap n) (show q + 1 ≤ m by omega)
          rw [HT.out] at hsm
          simp only [sumTo] at hsm
          have hsl := run_slice3 wA.heap.size tot (cn X kap n) q _ ((sumTo (cn X kap n) q : Int) + (cn X kap n q : Int)) rfl (by omega) hsm
          unfold sliceA at hsl
          have S5 := hS.setr hqm (sliceA wA.heap.size (cn X kap n) q 0)
          rw [rv2_step] at S5
          unfold sliceA at S5
          have g1 : (0 : Int) ≤ (q : Int) := by omega
          have g2 : (q : Int) < (m : Int) := by omega
          clear hS S4
          go_wp2_with fail
          go_roundw
          case rel => exact ⟨q + 1, by omega, by go_num, by simp [sumTo], S5⟩
          case measure => simp [intOf]; omega
        · obtain rfl : m = q := by omega
          obtain ⟨wB, rfl⟩ : ∃ wB, wB = wr := ⟨_, rfl⟩
          have hH0 : wB.cell? ⟨hb, 0, none⟩ = some (.slice ao n co) := (hS.bel.cell (p := ⟨hb, 0, none⟩) hlt).trans c0
          have S5 := hS.turn
          clear hS S4 hqm
          go_wp2_with fail
          clear hH0
          go_loopw [99] (fun i wr2 => ∃ (k : Nat), k ≤ n ∧ i = .int .i64 k ∧ S3 w n m tot w1.heap.size (w1.heap.size + 1) wA.heap.size (wA.heap.size + 1) X kap (rv3 wA.heap.size (cn X kap n) X kap k) (grp X kap k) wr2) (fun i _ => n - (intOf i).toNat)
          case atStart => exact ⟨0, by omega, rfl, S5⟩
          case round =>
            obtain ⟨k, hk, rfl, hS⟩ := hrel
            by_cases hkn : k < n
            · obtain ⟨b0, rfl, hb0, hE⟩ := opsH_ten hO hS.bel (by omega)
              have E := hE k hkn
              obtain ⟨x, hx⟩ : ∃ x, X k = x := ⟨_, rfl⟩
              rw [hx] at E
              have HX : Hid (X k = x) := hx
              obtain ⟨e0, e1, e2, e3, e4, e5, e6, e7, e8, e9, e10⟩ := E
              have g1 : (0 : Int) ≤ (k : Int) := by omega
              have g2 : (k : Int) < (n : Int) := by omega
              have k1 := later1 (hS.kr.cell hkn)
              have hrl := hS.r.lt
              clear hE hx S5
              cases hkb : kB X k with
              | false =>
                have S6 := (hS.grow (World.grownBy_alloc wr (.cells #[.int .i64 x.p, .string x.k, .int .u8 x.f, .int .i64 0, .bool false, .int .i64 0, .bool false, .int .u8 x.o, .int .i64 x.i, .int .i64 x.c, .int .i64 x.t] 50) none)).skip hkb
                have kv : kfK X kap n k = -1 := by simp [kfK, hkn, hkb]
                rw [kv] at k1
                clear hkb kv hS
                go_wp2_with fail
                go_roundw
                case rel => exact ⟨k + 1, by omega, by go_num, S6⟩
                case measure => simp [intOf]; omega
              | true =>
                have kv : kfK X kap n k = (kap k : Int) := by simp [kfK, hkn, hkb]
                rw [kv] at k1
                have HB : Hid (kB X k = true) := hkb
                have hqm := (hL.hits _ _ (HK.out k hkn HB.out)).1
                have T := ten_new wr x
                have S6 := (hS.grow (World.grownBy_alloc wr (.cells #[.int .i64 x.p, .string x.k, .int .u8 x.f, .int .i64 0, .bool false, .int .i64 0, .bool false, .int .u8 x.o, .int .i64 x.i, .int .i64 x.c, .int .i64 x.t] 50) none))
                have g3 : (0 : Int) ≤ (kap k : Int) := by omega
                have g4 : (kap k : Int) < (m : Int) := by omega
                clear hkb kv hS
                go_wp2_with fail
                generalize hW : wr.alloc (.cells #[.int .i64 x.p, .string x.k, .int .u8 x.f, .int .i64 0, .bool false, .int .i64 0, .bool false, .int .u8 x.o, .int .i64 x.i, .int .i64 x.c, .int .i64 x.t] 50) = wc at *
                have hws : wr.heap.size + 1 = wc.heap.size := by rw [← hW]; simp
                obtain ⟨q, hq⟩ : ∃ q, kap k = q := ⟨_, rfl⟩
                have HQ : Hid (kap k = q) := hq
                rw [hq] at hqm g3 g4 ⊢
                have hlt2 : cn X kap k q < cn X kap n q := by rw [← hq]; exact (filt_get (pr := prG (kB X) kap (kap k)) hkn (by simp [prG, HB.out])).1
                have hsm := sumTo_mono (cn X kap n) (show q + 1 ≤ m by omega)
                rw [HT.out] at hsm
                simp only [sumTo] at hsm
                have HO : Hid (offA (cn X kap n) q = sumTo (cn X kap n) q * 11) := by unfold Hid offA; rw [if_neg (by omega)]
                have x2 : wc.cell? ⟨wA.heap.size + 1, q, none⟩ = some (.slice (some ⟨wA.heap.size, offA (cn X kap n) q, none⟩) (cn X kap k q) (cn X kap n q)) := S6.r.cell hqm
                have x3 := S6.r.free q
                have hpg2 : wA.heap.size + 1 < wc.heap.size := by omega
                have y2 := later1 x2
                have y3 := frozen1 x3 hpg2
                have hsp : ∀ W : World, wc.grownBy W none → ∀ j, j < (cellsOp x).length → (W.cell? ⟨wA.heap.size, offA (cn X kap n) q + cn X kap k q * 11 + j, none⟩).isSome = true ∧ W.frozen? ⟨wA.heap.size, offA (cn X kap n) q + cn X kap k q * 11 + j, none⟩ = false := fun W hg j hj => (S6.al.kept hg (fun e => by cases e)).spare (by have h11 : (cellsOp x).length = 11 := rfl; have := HO.out; omega)
                have TA : ∀ W : World, wc.grownBy W none → S3 w n m tot w1.heap.size (w1.heap.size + 1) wA.heap.size (wA.heap.size + 1) X kap (rv3 wA.heap.size (cn X kap n) X kap (k + 1)) (grp X kap (k + 1)) ((W.setCells wA.heap.size (offA (cn X kap n) q + cn X kap k q * 11) (cellsOp x)).setCell ⟨wA.heap.size + 1, q, none⟩ (.slice (some ⟨wA.heap.size, offA (cn X kap n) q, none⟩) (cn X kap k q + 1) (cn X kap n q))) := fun W hg => by
                  have := (S6.grow hg).app HT.out hkn HB.out (by rw [HQ.out]; exact hqm)
                  rw [HQ.out, HX.out] at this
                  exact this
                obtain ⟨t0, t1, t2, t3, t4, t5, t6, t7, t8, t9, t10⟩ := T
                generalize hoff : offA (cn X kap n) q = off at *
                generalize hlen : cn X kap k q = len at *
                generalize hcap : cn X kap n q = cap at *
                have HW : Hid (wr.alloc (.cells #[.int .i64 x.p, .string x.k, .int .u8 x.f, .int .i64 0, .bool false, .int .i64 0, .bool false, .int .u8 x.o, .int .i64 x.i, .int .i64 x.c, .int .i64 x.t] 50) = wc) := hW
                clear hW hq hoff hlen hcap k1 e0 e1 e2 e3 e4 e5 e6 e7 e8 e9 e10 HW
                go_wp2_with fail
                go_region_law ((refine step_room (by rfl) _ _ _ (by rfl) 50 j0 11 Try.underlying32 hj0 hy1 wA.heap.size off len cap (by rfl) ⟨wc.heap.size, 0, none⟩ 1 1 (cellsOp x) (by rfl) (by rfl) (World.news_of_block (cs := #[.int .i64 x.p, .string x.k, .int .u8 x.f, .int .i64 0, .bool false, .int .i64 0, .bool false, .int .u8 x.o, .int .i64 x.i, .int .i64 x.c, .int .i64 x.t]) (t := 50) (fr := (0, 0)) (heap_alloc_new wc _)) (by simp [cellsOp, Value.oneCell']) (by omega) (hsp _ (undrew1 (World.grownBy_alloc _ _ none))) ?_; intro w5 HW5; have z2 := (show w5.cell? ⟨wA.heap.size + 1, q, none⟩ = some (.slice (some ⟨wA.heap.size, off, none⟩) len cap) from by rw [HW5.out, World.cell?_setCells_out _ _ _ _ _ (fun e => by simp at e)]; exact later1 x2 _); have z3 := (show w5.frozen? ⟨wA.heap.size + 1, q, none⟩ = false from by rw [HW5.out, World.frozen?_setCells]; exact frozen1 x3 hpg2 _)))
                all_goals
                  have TB := TA _ (undrew1 (World.grownBy_alloc _ (.cells #[.int .i64 x.p, .string x.k, .int .u8 x.f, .int .i64 0, .bool false, .int .i64 0, .bool false, .int .u8 x.o, .int .i64 x.i, .int .i64 x.c, .int .i64 x.t] 50) none))
                  clear TA x2 x3 y2 y3 z2 z3 hsp
                  go_wp2_with fail
                  go_roundw
                  case rel => first | (rw [HW5.out]; exact ⟨k + 1, by omega, by go_num, TB⟩) | (rw [HW5.out]; repeat apply Exists.intro; exact ⟨⟨k + 1, by omega, by go_num, TB⟩, rfl⟩)
                  case measure => simp [intOf]; omega
            · obtain rfl : n = k := by omega
              have G := hS.done
              go_wp2_with fail
              go_ret
              exact ⟨_, _, F, kap, rfl, hL, HK.out, G, hS.bel⟩

end Go.Proofs.Qxb6603043a
