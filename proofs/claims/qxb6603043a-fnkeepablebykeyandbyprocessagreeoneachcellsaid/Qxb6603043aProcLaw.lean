import Derived.Test.Qxb6603043aProcW
import Derived.Test.Qxb6603043aBytes15
import Derived.Test.Qxb6603043aSize
namespace Go.Proofs.Qxb6603043a
open Go.RowKit Go.Maps
open UF

theorem info2 : (Try.prog.info? 2).map (fun i => (i.zero, i.size, i.bytes)) = some (some (.int .i64 0), 1, 8) := by kernel_rfl

theorem run_make34 (n : Nat) (hn : n ≤ 1048576) (w : World) : (Instr.makeSlice 34 (.int .i64 0) (.int .i64 (n : Int))).run Try.prog w = .ok (.slice (some ⟨w.heap.size, 0, none⟩) 0 n) (w.alloc (.cells (madeCells #[.int .i64 0] n) 2)) := by
  obtain ⟨i, hi, hzz⟩ := Option.map_eq_some_iff.1 info2
  simp only [Prod.mk.injEq] at hzz
  obtain ⟨hz, hs, hb⟩ := hzz
  have hr := run_make (P := Try.prog) w 34 2 i _ Try.underlying34 hi hz .i64 .i64 0 n (by omega) (by omega) (by rw [hb]; omega) (by omega)
  simp only [Int.toNat_natCast, hs, Int.toNat_zero, Nat.mul_one] at hr
  exact hr

def lI64 (L : List Int) : List Value := L.map (fun v : Int => Value.int .i64 v)

theorem i64s_of_row {w : World} {base g cap : Nat} {L : List Int} (h : w.ownsRow base 2 1 (.slice (some ⟨g, 0, none⟩) L.length cap) L.length (lI64 L)) : I64s w (some ⟨g, 0, none⟩) L := by
  refine fun _ => ⟨g, 0, (h.lt g rfl).2, rfl, fun j v hj => ?_⟩
  have hlt : j < L.length := (List.getElem?_eq_some_iff.1 hj).1
  rw [Nat.zero_add, h.cellAt j (by omega)]
  simp [lI64, hj]

theorem grown_of_below {w w' : World} (hb : Below w.heap.size w w') (r : Option Nat) : w.grownBy w' r := ⟨hb.os, hb.tape, hb.output, hb.size, fun k hk _ => hb.block k hk⟩

theorem keep_cell {w w1 : World} {p : Addr} {v : Value} (e : w.cell? p = some v) (hb : Below w.drew.heap.size w.drew w1) : w1.cell? p = some v := (hb.cell (World.block_lt_of_cell? _ _ e)).trans e

attribute [local go_sem ↓] Go.wp_at_zero Go.wp_at_succ

set_option maxRecDepth 100000 in
set_option maxHeartbeats 4000000 in
theorem procLaw_any (a1 : Option Addr) (n cap1 : Nat) (X : Nat → B1) (a2 : Option Addr) (m cap2 : Nat) (K : Nat → ByteArray) (pr : Int) (w : World) (m1 : n ≤ 9223372036854775807) (m2 : m ≤ 9223372036854775807)
    (h1 : Ops w a1 n X) (h2 : Strs w a2 m K) (f1 : Fit n X) (f2 : FitK m K) :
    Calls Try.prog 4 #[.slice a1 n cap1, .slice a2 m cap2, .int .i64 pr] w fun e w' => e = .returned (.bool true) ∧ Below w.heap.size w w' := by
  go_enter Try.func4, Try.ntmps4
  go_wp2_with fail
  refine (bytes15_any a1 n cap1 X a2 m cap2 K pr w m1 m2 h1 h2 f1 f2).mono ?_
  rintro e w0 ⟨⟨r, rfl⟩, hw⟩
  subst w0
  cases r with
  | false =>
    go_wp2
    go_ret
    exact ⟨rfl, Below.refl _ _⟩
  | true =>
  by_cases t1 : 65536 < n
  · go_wp2
    go_ret
    exact ⟨rfl, Below.refl _ _⟩
  by_cases t2 : 65536 < m
  · go_wp2
    go_ret
    exact ⟨rfl, Below.refl _ _⟩
  go_wp2_with fail
  refine (size_any a1 n cap1 X a2 m cap2 K w (by omega) (by omega) h1 h2 f1 f2).mono ?_
  rintro e w0 ⟨r, rfl, hw⟩
  subst w0
  by_cases t3 : 1048576 < r
  · go_wp2
    go_ret
    exact ⟨rfl, Below.refl _ _⟩
  go_wp2_with fail
  refine (build_any a1 n cap1 X a2 m cap2 K pr w (by omega) (by omega) h1 h2).mono ?_
  rintro e wA ⟨hb, rfl, hH, hbA⟩
  go_wp2_with fail
  refine (byProc_any hb n m X K wA (by omega) f1 hH).mono ?_
  rintro e wB ⟨a, cap, rfl, hG, hbB⟩
  have hbB' := hbA.trans (hbB.mono hbA.size)
  have hO := h1.below hbB'
  have hmk := run_make34 n (by omega)
  obtain ⟨j0, hj0, hy0, hy1, hy2⟩ := info_parts info2
  clear hH hbA hbB h1 h2 f1 f2
  go_wp2
  go_loopw [9, 10] (fun pv i wr => ∃ k : Nat, k ≤ n ∧ i = .int .i64 k ∧ pv = .slice (some ⟨wB.heap.size, 0, none⟩) (names (kB X) (pB X) k).length n ∧ wr.ownsRow wB.heap.size 2 1 (.slice (some ⟨wB.heap.size, 0, none⟩) (names (kB X) (pB X) k).length n) (names (kB X) (pB X) k).length (lI64 (names (kB X) (pB X) k)) ∧ Below wB.heap.size wB wr) (fun _ i _ => n - (intOf i).toNat)
  case atStart => exact ⟨0, by omega, rfl, rfl, World.ownsRow_made wB _ n (Nat.le_refl _) (by rw [maxLen_is]; omega) (by rw [size_madeCells]; omega), (Below.refl _ _).alloc (Nat.le_refl _) _⟩
  case round =>
    obtain ⟨k, hk, rfl, rfl, hown, hbel⟩ := hrel
    have hnl := names_length_le (kB X) (pB X) k
    by_cases hkn : k < n
    · obtain ⟨bo, oo, hbo, rfl, hc⟩ := (hO.below hbel) (by omega)
      have S0 := hc k hkn
      obtain ⟨x, hx⟩ : ∃ x, X k = x := ⟨_, rfl⟩
      have HX : Hid (X k = x) := hx
      rw [hx] at S0
      obtain ⟨s0, s1, s2, s3, s4, s5, s6⟩ := S0
      have S0 : Seven wr bo (oo + k * 7) x := ⟨s0, s1, s2, s3, s4, s5, s6⟩
      clear hc hx hmk
      go_wp2_with fail
      refine (keepable17 x wr).mono ?_
      rintro e w1 ⟨rfl, hb1⟩
      have S1 := S0.below hb1 hbo
      have hbel1 := hbel.trans (hb1.mono hbel.size)
      have hown1 := hown.kept (grown_of_below hb1 none) (by simp [Value.ownBlock])
      have hwl := (hown1.lt wB.heap.size rfl).2
      clear s0 s1 s2 s3 s4 s5 s6 S0 hown
      cases hkb : keepB x with
      | false =>
        have HN : Hid (names (kB X) (pB X) (k + 1) = names (kB X) (pB X) k) := names_old (fun h => by
          have : kB X k = false := by unfold kB; rw [HX.out]; exact hkb
          rw [this] at h
          cases h)
        clear hkb
        go_wp2
        go_roundw
        case rel =>
          refine ⟨k + 1, by omega, by go_num, by rw [HN.out], ?_, hbel1⟩
          rw [HN.out]
          exact hown1
        case measure => simp [intOf]; omega
      | true =>
        have HKB : Hid (kB X k = true) := by unfold kB; rw [HX.out]; exact hkb
        have HPB : Hid (pB X k = x.p) := by unfold pB; rw [HX.out]; rfl
        have s0 := S1.c0
        clear hkb
        go_wp2_with fail
        refine (hasProc_any _ (names (kB X) (pB X) k) n x.p w1 (by omega) (i64s_of_row hown1)).mono ?_
        rintro e w0 ⟨rfl, hw⟩
        subst w0
        by_cases hin : x.p ∈ names (kB X) (pB X) k
        · have hd : decide (x.p ∈ names (kB X) (pB X) k) = true := by simp [hin]
          have HN : Hid (names (kB X) (pB X) (k + 1) = names (kB X) (pB X) k) := names_old (fun _ => by rw [HPB.out]; exact hin)
          clear hin
          go_wp2
          go_roundw
          case rel =>
            refine ⟨k + 1, by omega, by go_num, by rw [HN.out], ?_, hbel1⟩
            rw [HN.out]
            exact hown1
          case measure => simp [intOf]; omega
        · have hd : decide (x.p ∈ names (kB X) (pB X) k) = false := by simp [hin]
          have HN : Hid (names (kB X) (pB X) (k + 1) = names (kB X) (pB X) k ++ [x.p]) := by
            show _ = _
            rw [← HPB.out]
            exact names_new HKB.out (by rw [HPB.out]; exact hin)
          clear hin
          go_wp2_with (at_builtin; refine wpList_append_fits _ rfl _ _ 34 rfl wB.heap.size 2 j0 1 Try.underlying34 hj0 hy1 wB.heap.size (names (kB X) (pB X) k).length n (lI64 (names (kB X) (pB X) k)) rfl (hown1.alloc _) ⟨w1.heap.size, 0, none⟩ 1 1 [.int .i64 x.p] rfl rfl (news1 rfl _ _) (by simp [Value.oneCell']) (by omega) ?_; intro w3 hown3 hgrow3)
          have hg2 := (World.grownBy_alloc w1 (.cells #[.int .i64 x.p] 2) (some wB.heap.size)).trans hgrow3
          have hb3 := hbel1.grown hg2 (by omega) (fun b hb => by cases hb; omega)
          go_roundw
          case rel =>
            refine ⟨k + 1, by omega, by go_num, by rw [HN.out]; simp, ?_, hb3⟩
            rw [HN.out]
            simpa [lI64] using hown3
          case measure => simp [intOf]; omega
    · obtain rfl : k = n := by omega
      obtain ⟨wD, rfl⟩ : ∃ wD : World, wD = wr := ⟨_, rfl⟩
      have hI := i64s_of_row hown
      have hs := hbel.size
      have hGD := hG.below hbel
      have hOD := hO.below hbel
      generalize hNN : names (kB X) (pB X) k = NN at *
      clear hNN hG hO hown hmk
      go_wp2
      go_loopw [11] (fun i wr => ∃ q : Nat, q ≤ NN.length ∧ i = .int .i64 q ∧ Below wD.heap.size wD wr) (fun i _ => NN.length - (intOf i).toNat)
      case atStart => exact ⟨0, by omega, rfl, Below.refl _ _⟩
      case round =>
        obtain ⟨q, hq, rfl, hbel2⟩ := hrel
        by_cases hqn : q < NN.length
        · have e0 : NN[q]? = some NN[q] := List.getElem?_eq_getElem hqn
          obtain ⟨p, hp⟩ : ∃ p, p = NN[q] := ⟨_, rfl⟩
          rw [← hp] at e0
          obtain ⟨pg, sa, sc, rfl, e1, e2⟩ := (hGD.below hbel2) q p e0
          obtain ⟨b, off, hbl, eb, hc⟩ := (hI.below hbel2) (by omega)
          cases eb
          have d1 := hc q p e0
          rw [Nat.zero_add] at d1
          have hO3 := hOD.below hbel2
          have hpgl := World.block_lt_of_cell? _ _ e1
          have i1 : (0 : Int) ≤ (q : Int) := by omega
          have i2 : (q : Int) < (NN.length : Int) := by omega
          clear hc e0 hp
          go_wp2_with fail
          go_region_held3 (fun w' => w'.cell? ⟨pg, q, none⟩ = some (.slice sa (filt (prP X p) k).length sc) ∧ w'.cell? ⟨wB.heap.size, q, none⟩ = some (.int .i64 p))
            (first | exact ⟨e1, d1⟩ | exact ⟨keep_cell e1 (by assumption), keep_cell d1 (by assumption)⟩)
            (first | (go_at_call 19; refine (isKeptP_any sa sc a1 k cap1 X p _ (by omega) ?_ ?_).mono ?_; exact hO3.below ((Below.refl _ _).drew); exact e2.below ((Below.refl _ _).drew); rintro e w2 ⟨rfl, hb2⟩))
          have hb3 := hbel2.drew.trans (hb2.mono hbel2.size)
          go_wp2
          go_roundw
          case rel => exact ⟨q + 1, by omega, by go_num, hb3⟩
          case measure => simp [intOf]; omega
        · go_wp2
          go_ret
          exact ⟨rfl, (hbB'.trans (hbel.mono hbB'.size)).trans (hbel2.mono (Nat.le_trans hbB'.size hs))⟩

end Go.Proofs.Qxb6603043a
