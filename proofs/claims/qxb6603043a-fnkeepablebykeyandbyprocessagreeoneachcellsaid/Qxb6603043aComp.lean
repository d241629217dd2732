import Derived.Test.Qxb6603043aSepV
import Derived.OwnWalk
import Derived.Test.Qxb6603043aBfs
import Derived.Deep.QuietTactic
import Derived.BigQuiet
namespace Go.Proofs.Qxb6603043a
open Go.RowKit Go.Maps
open UF

theorem run_make0 (n : Nat) (hn : n ≤ 1048576) (w : World) : (Instr.makeSlice 53 (.int .i64 0) (.int .i64 (n : Int))).run Try.prog w = .ok (.slice (some ⟨w.heap.size, 0, none⟩) 0 n) (w.alloc (.cells (madeCells #[.int .i64 0] n) 3)) := by
  obtain ⟨i, hi, hzz⟩ := Option.map_eq_some_iff.1 info3
  simp only [Prod.mk.injEq] at hzz
  obtain ⟨hz, hs, hb⟩ := hzz
  have hr := run_make (P := Try.prog) w 53 3 i _ Try.underlying53 hi hz .i64 .i64 0 n (by omega) (by omega) (by rw [hb]; omega) (by omega)
  simp only [Int.toNat_natCast, hs, Int.toNat_zero, Nat.mul_one] at hr
  exact hr

theorem IntRow.made (w : World) (n : Nat) : IntRow (w.alloc (.cells (madeCells #[.int .i64 0] n) 3)) w.heap.size n (fun _ => 0) := by
  refine ⟨_, heap_alloc_new _ _, size_madeCells _ _, fun i hi => ?_⟩
  have := congrArg (·[i]?) (toList_madeCells_one (.int .i64 0) n)
  simpa [hi] using this

theorem adj_symm (X : Nat → B1) (a b : Nat) (h : Adj X a b) : Adj X b a := h.elim (fun h => .inl h.symm) (fun h => .inr h.symm)

theorem ownsRow_reset {w : World} {base e size g n cap : Nat} {xs : List Value} (h : w.ownsRow base e size (.slice (some ⟨g, 0, none⟩) n cap) n xs) : w.ownsRow base e size (.slice (some ⟨g, 0, none⟩) 0 cap) 0 [] := by
  rcases h.2 with ⟨h1, _⟩ | ⟨g', cap', cur, h1, h2, h3, h4, h5, h6, _⟩
  · cases h1
  · cases h1
    exact ⟨by simp, .inr ⟨g, cap, cur, rfl, h2, h3, Nat.zero_le _, h5, h6, by simp⟩⟩

theorem news_at {w : World} {H : Nat} (hH : w.heap.size = H) (x : Value) (t : TypeId) : ∀ j u, [x][j]? = some u → (w.alloc (.cells #[x] t)).cell? ((⟨H, 0, none⟩ : Addr).add j) = some u := by
  subst hH
  exact cell_one_new w x t

theorem str_ne {a b : ByteArray} (h : a ≠ b) : (a.toList == b.toList) = false := by
  rw [beq_eq_false_iff_ne, ByteArray.toList_eq, ByteArray.toList_eq]
  exact fun e => h (WideShapes.bytes_inj e)

theorem snoc_get {l : List Nat} {i x : Nat} (h : l[i]? = some x) (y : Nat) : (l ++ [y])[i]? = some x := by
  rw [List.getElem?_append_left (List.getElem?_eq_some_iff.1 h).1]
  exact h

def qI (qu : List Nat) : List Value := qu.map (fun i : Nat => Value.int .i64 (i : Int))

set_option maxRecDepth 100000 in
set_option maxHeartbeats 4000000 in
theorem comp_any (a1 : Option Addr) (n cap1 : Nat) (X : Nat → B1) (w : World) (hn : n ≤ 65536) (hO : Ops w a1 n X) :
    Calls Try.prog 25 #[.slice a1 n cap1] w fun e w' => ∃ (c : Nat → Int) (bc : Nat), e = .returned (.slice (some ⟨bc, 0, none⟩) n n) ∧ w.heap.size ≤ bc ∧ IntRow w' bc n c ∧ Closed n (Adj X) n c ∧ Below w.heap.size w w' := by
  have hmk := run_make_row' (P := Try.prog) 53 3 (.int .i64 0) 8 Try.underlying53 info3 rfl .i64 .i64 n (by omega) (by omega)
  have hmk0 := run_make0 n (by omega)
  obtain ⟨j0, hj0, hy0, hy1, hy2⟩ := info_parts info3
  go_enter Try.func25, Try.ntmps25
  go_wp2
  go_loopw [5] (fun i wr => ∃ k : Nat, k ≤ n ∧ i = .int .i64 k ∧ IntRow wr w.heap.size n (fun j => if j < k then -1 else 0) ∧ Below w.heap.size w wr) (fun i _ => n - (intOf i).toNat)
  case atStart => exact ⟨0, by omega, rfl, IntRow.made _ _, (Below.refl _ _).alloc (Nat.le_refl _) _⟩
  case round =>
    obtain ⟨k, hk, rfl, hR, hbel⟩ := hrel
    by_cases hlt : k < n
    · have d1 := hR.cell hlt
      have d2 := hR.free k
      have hR' := hR.set hlt (-1)
      clear hR
      go_wp2
      go_roundw
      case rel =>
        refine ⟨k + 1, by omega, by go_num, hR'.congr (fun j hj => ?_), hbel.setCell (p := ⟨w.heap.size, k, none⟩) (Nat.le_refl _) _⟩
        by_cases e : j = k
        · subst e; rw [upd_same, if_pos (by omega)]
        · rw [upd_other _ _ e]
          by_cases h : j < k
          · rw [if_pos h, if_pos (by omega)]
          · rw [if_neg h, if_neg (by omega)]
      case measure => simp [intOf]; omega
    · obtain ⟨wa, rfl⟩ : ∃ wa : World, wa = wr := ⟨_, rfl⟩
      have hR0 : IntRow wa w.heap.size n (fun _ => -1) := hR.congr (fun j hj => by rw [if_pos (by omega)])
      have hlt0 := hR0.lt
      clear hR hmk
      go_wp2
      go_loopw [6, 7] (fun qv i wr => ∃ (s ql : Nat) (c : Nat → Int) (xs : List Value), s ≤ n ∧ i = .int .i64 s ∧ qv = .slice (some ⟨wa.heap.size, 0, none⟩) ql n ∧ wr.ownsRow wa.heap.size 3 1 (.slice (some ⟨wa.heap.size, 0, none⟩) ql n) ql xs ∧ IntRow wr w.heap.size n c ∧ Closed n (Adj X) s c ∧ Below w.heap.size w wr) (fun _ i _ => n - (intOf i).toNat)
      case atStart => exact ⟨0, 0, fun _ => -1, [], by omega, rfl, rfl, World.ownsRow_made wa _ n (Nat.le_refl _) (by rw [maxLen_is]; omega) (by rw [size_madeCells]; omega), hR0.kept (World.grownBy_alloc _ _ none) (fun e => by cases e), Closed.start _ _, hbel.alloc (by omega) _⟩
      case round =>
        obtain ⟨s, ql, c, xs, hs, rfl, rfl, hown, hR, hCl, hbel2⟩ := hrel
        by_cases hsn : s < n
        · have d1 := hR.cell hsn
          have d2 := hR.free s
          by_cases hc : 0 ≤ c s
          · have hCl' := hCl.skip hc
            clear hmk0
            go_wp2
            go_roundw
            case rel => exact ⟨s + 1, ql, c, xs, by omega, by go_num, rfl, hown, hR, hCl', hbel2⟩
            case measure => simp [intOf]; omega
          · have hc' : c s < 0 := by omega
            have hW0 := Wave.start hCl hsn hc'
            have hR' := hR.set hsn (s : Int)
            have hown' := (ownsRow_reset hown).kept (grown_setCell wr w.heap.size s (.int .i64 (s : Int))) (.inr (by simp [Value.ownBlock]; omega))
            have hwl := hR.lt
            clear hown hmk0
            go_wp2_with (at_builtin; refine wpList_append_fits _ rfl _ _ 53 rfl wa.heap.size 3 j0 1 Try.underlying53 hj0 hy1 wa.heap.size 0 n [] rfl (hown'.alloc _) ⟨wr.heap.size, 0, none⟩ 1 1 [.int .i64 (s : Int)] rfl rfl (news_at (by simp) _ _) (by simp [Value.oneCell']) (by omega) ?_; intro w1 hown1 hgrow1; simp only [Nat.zero_add, List.nil_append] at hown1)
            have hg2 := (World.grownBy_alloc (wr.setCell ⟨w.heap.size, s, none⟩ (.int .i64 (s : Int))) (.cells #[.int .i64 (s : Int)] 3) (some wa.heap.size)).trans hgrow1
            have hR1 := hR'.kept hg2 (ne_some (by omega))
            have hb1 := (hbel2.setCell (p := ⟨w.heap.size, s, none⟩) (Nat.le_refl _) (.int .i64 (s : Int))).grown hg2 (by simp; omega) (fun b hb => by cases hb; omega)
            clear hgrow1 hg2 hR' hown' hR d1 d2
            go_loopw [6, 8] (fun qv i wr => ∃ (hd : Nat) (qu : List Nat) (c2 : Nat → Int), hd ≤ qu.length ∧ i = .int .i64 hd ∧ qv = .slice (some ⟨wa.heap.size, 0, none⟩) qu.length n ∧ wr.ownsRow wa.heap.size 3 1 (.slice (some ⟨wa.heap.size, 0, none⟩) qu.length n) qu.length (qI qu) ∧ IntRow wr w.heap.size n c2 ∧ Wave n (Adj X) s c c2 qu hd 0 ∧ Below w.heap.size w wr) (fun _ i _ => n - (intOf i).toNat)
            case atStart => exact ⟨0, [s], _, by omega, rfl, rfl, hown1, hR1, hW0, hb1⟩
            case round =>
              obtain ⟨hd, qu, c2, hhd, rfl, rfl, hown2, hR2, hW, hb2⟩ := hrel
              have hql := hW.size
              by_cases hdl : hd < qu.length
              · have x1 := hown2.cellAt hd (by omega)
                have x1' : wr.cell? ⟨wa.heap.size, hd, none⟩ = some (.int .i64 ((qu[hd] : Nat) : Int)) := by rw [x1]; simp [qI, hdl]
                obtain ⟨x, hx⟩ : ∃ x, x = qu[hd] := ⟨_, rfl⟩
                have HX : Hid (qu[hd]? = some x) := by rw [hx]; exact List.getElem?_eq_getElem hdl
                rw [← hx] at x1'
                have i1 : (hd : Int) < (qu.length : Int) := by omega
                clear hx x1 hown1 hR1 hW0 hb1
                go_wp2
                go_loopw [6, 10] (fun qv i wr => ∃ (k : Nat) (qu : List Nat) (c2 : Nat → Int), k ≤ n ∧ hd < qu.length ∧ i = .int .i64 k ∧ qv = .slice (some ⟨wa.heap.size, 0, none⟩) qu.length n ∧ wr.ownsRow wa.heap.size 3 1 (.slice (some ⟨wa.heap.size, 0, none⟩) qu.length n) qu.length (qI qu) ∧ IntRow wr w.heap.size n c2 ∧ Wave n (Adj X) s c c2 qu hd k ∧ Hid (qu[hd]? = some x) ∧ Below w.heap.size w wr) (fun _ i _ => n - (intOf i).toNat)
                case atStart => exact ⟨0, qu, c2, by omega, hdl, rfl, rfl, hown2, hR2, hW, HX, hb2⟩
                case round =>
                  obtain ⟨k2, qu2, c3, hk2, hdl2, rfl, rfl, hown3, hR3, hW3, HX2, hb3⟩ := hrel
                  by_cases hlt2 : k2 < n
                  · have hxm := (hW3.mem x (List.mem_of_getElem? HX2.out)).1
                    obtain ⟨b, off, hbl, rfl, hc7⟩ := (hO.below hb3) (by omega)
                    have s1 := (hc7 k2 hlt2).c0
                    have s2 := (hc7 x hxm).c0
                    have s3 := (hc7 k2 hlt2).c1
                    have s4 := (hc7 x hxm).c1
                    have d1 := hR3.cell hlt2
                    have d2 := hR3.free k2
                    have j1 : (0 : Int) ≤ (k2 : Int) := by omega
                    have j2 : (k2 : Int) < (n : Int) := by omega
                    have j3 : (0 : Int) ≤ (x : Int) := by omega
                    have j4 : (x : Int) < (n : Int) := by omega
                    clear hc7
                    by_cases hck : c3 k2 < 0
                    · by_cases hpe : (X k2).p = (X x).p
                      · have HA : Hid (Adj X k2 x) := .inl hpe
                        have hpb : ((X k2).p == (X x).p) = true := by simp [hpe]
                        have HH := hW3.hit HX2.out hlt2 hck HA.out
                        have hql3 := hW3.size
                        have hql4 := HH.size
                        have hwl3 := hR3.lt
                        clear hpe
                        go_wp2
                        go_quiet (fail)
                        obtain ⟨wq, HQ⟩ : ∃ wq, Hid (wr.drewN nq = wq) := ⟨_, rfl⟩
                        have e1 : wq.cell? ⟨w.heap.size, k2, none⟩ = some (.int .i64 (c3 k2)) := by rw [← HQ.out]; exact d1
                        have e2 : wq.frozen? ⟨w.heap.size, k2, none⟩ = false := by rw [← HQ.out]; exact d2
                        have e3 : wq.ownsRow wa.heap.size 3 1 (.slice (some ⟨wa.heap.size, 0, none⟩) qu2.length n) qu2.length (qI qu2) := by rw [← HQ.out]; exact hown3
                        have e4 : IntRow wq w.heap.size n c3 := by rw [← HQ.out]; exact hR3
                        have e5 : Below w.heap.size w wq := by rw [← HQ.out]; exact below_drewN hb3 _
                        have e6 := e4.lt
                        have e7 := e3.kept (grown_setCell wq w.heap.size k2 (.int .i64 (s : Int))) (.inr (by simp [Value.ownBlock]; omega))
                        have hql5 : qu2.length + 1 ≤ n := by simp at hql4; omega
                        rw [HQ.out]
                        clear hown3 hR3 hb3 d1 d2 s1 s2 s3 s4
                        go_wp2_with (at_builtin; refine wpList_append_fits _ rfl _ _ 53 rfl wa.heap.size 3 j0 1 Try.underlying53 hj0 hy1 wa.heap.size qu2.length n (qI qu2) rfl (e7.alloc _) ⟨wq.heap.size, 0, none⟩ 1 1 [.int .i64 (k2 : Int)] rfl rfl (news_at (by simp) _ _) (by simp [Value.oneCell']) (by omega) ?_; intro w1 hown1 hgrow1)
                        have hg2 := (World.grownBy_alloc (wq.setCell ⟨w.heap.size, k2, none⟩ (.int .i64 (s : Int))) (.cells #[.int .i64 (k2 : Int)] 3) (some wa.heap.size)).trans hgrow1
                        have hR1 := (e4.set hlt2 (s : Int)).kept hg2 (ne_some (by omega))
                        have hb1 := (e5.setCell (p := ⟨w.heap.size, k2, none⟩) (Nat.le_refl _) (.int .i64 (s : Int))).grown hg2 (by simp; omega) (fun b hb => by cases hb; omega)
                        have hown4 : w1.ownsRow wa.heap.size 3 1 (.slice (some ⟨wa.heap.size, 0, none⟩) (qu2 ++ [k2]).length n) (qu2 ++ [k2]).length (qI (qu2 ++ [k2])) := by simpa [qI] using hown1
                        go_roundw
                        case rel => exact ⟨k2 + 1, qu2 ++ [k2], upd c3 k2 (s : Int), by omega, by simp; omega, by go_num, by simp, hown4, hR1, HH, snoc_get HX2.out _, hb1⟩
                        case measure => simp [intOf]; omega
                      · have hpb : ((X k2).p == (X x).p) = false := by simp [hpe]
                        by_cases hke : (X k2).k = (X x).k
                        · have HA : Hid (Adj X k2 x) := .inr hke
                          have HH := hW3.hit HX2.out hlt2 hck HA.out
                          have hql3 := hW3.size
                          have hql4 := HH.size
                          have hwl3 := hR3.lt
                          go_wp2
                          go_quiet (fail)
                          obtain ⟨wq, HQ⟩ : ∃ wq, Hid (wr.drewN nq = wq) := ⟨_, rfl⟩
                          have e1 : wq.cell? ⟨w.heap.size, k2, none⟩ = some (.int .i64 (c3 k2)) := by rw [← HQ.out]; exact d1
                          have e2 : wq.frozen? ⟨w.heap.size, k2, none⟩ = false := by rw [← HQ.out]; exact d2
                          have e3 : wq.ownsRow wa.heap.size 3 1 (.slice (some ⟨wa.heap.size, 0, none⟩) qu2.length n) qu2.length (qI qu2) := by rw [← HQ.out]; exact hown3
                          have e4 : IntRow wq w.heap.size n c3 := by rw [← HQ.out]; exact hR3
                          have e5 : Below w.heap.size w wq := by rw [← HQ.out]; exact below_drewN hb3 _
                          have e6 := e4.lt
                          have e7 := e3.kept (grown_setCell wq w.heap.size k2 (.int .i64 (s : Int))) (.inr (by simp [Value.ownBlock]; omega))
                          have hql5 : qu2.length + 1 ≤ n := by simp at hql4; omega
                          rw [HQ.out]
                          clear hown3 hR3 hb3 d1 d2 s1 s2 s3 s4
                          go_wp2_with (at_builtin; refine wpList_append_fits _ rfl _ _ 53 rfl wa.heap.size 3 j0 1 Try.underlying53 hj0 hy1 wa.heap.size qu2.length n (qI qu2) rfl (e7.alloc _) ⟨wq.heap.size, 0, none⟩ 1 1 [.int .i64 (k2 : Int)] rfl rfl (news_at (by simp) _ _) (by simp [Value.oneCell']) (by omega) ?_; intro w1 hown1 hgrow1)
                          have hg2 := (World.grownBy_alloc (wq.setCell ⟨w.heap.size, k2, none⟩ (.int .i64 (s : Int))) (.cells #[.int .i64 (k2 : Int)] 3) (some wa.heap.size)).trans hgrow1
                          have hR1 := (e4.set hlt2 (s : Int)).kept hg2 (ne_some (by omega))
                          have hb1 := (e5.setCell (p := ⟨w.heap.size, k2, none⟩) (Nat.le_refl _) (.int .i64 (s : Int))).grown hg2 (by simp; omega) (fun b hb => by cases hb; omega)
                          have hown4 : w1.ownsRow wa.heap.size 3 1 (.slice (some ⟨wa.heap.size, 0, none⟩) (qu2 ++ [k2]).length n) (qu2 ++ [k2]).length (qI (qu2 ++ [k2])) := by simpa [qI] using hown1
                          go_roundw
                          case rel => exact ⟨k2 + 1, qu2 ++ [k2], upd c3 k2 (s : Int), by omega, by simp; omega, by go_num, by simp, hown4, hR1, HH, snoc_get HX2.out _, hb1⟩
                          case measure => simp [intOf]; omega
                        · have hkf := str_ne hke
                          have HM := hW3.miss HX2.out (.inr (fun h => h.elim (fun h => hpe h.symm) (fun h => hke h.symm)))
                          go_wp2
                          go_quiet (fail)
                          go_wp2
                          go_roundw
                          case rel => exact ⟨k2 + 1, qu2, c3, by omega, hdl2, by go_num, rfl, hown3, hR3, HM, HX2, below_drewN hb3 _⟩
                          case measure => simp [intOf]; omega
                    · have HM := hW3.miss HX2.out (.inl (by omega))
                      have hd1 : decide (c3 k2 < 0) = false := by simp; omega
                      go_wp2
                      go_quiet (fail)
                      go_wp2
                      go_roundw
                      case rel => exact ⟨k2 + 1, qu2, c3, by omega, hdl2, by go_num, rfl, hown3, hR3, HM, HX2, below_drewN hb3 _⟩
                      case measure => simp [intOf]; omega
                  · obtain rfl : k2 = n := by omega
                    have hql3 := hW3.size
                    go_wp2
                    go_roundw
                    case rel => exact ⟨hd + 1, qu2, c3, by omega, by go_num, rfl, hown3, hR3, hW3.next, hb3⟩
                    case measure => simp [intOf]; omega
              · have hCl2 := Wave.close (adj_symm X) hCl hW (by omega)
                clear hown1 hR1 hW0 hb1
                go_wp2
                go_roundw
                case rel => exact ⟨s + 1, qu.length, c2, qI qu, by omega, by go_num, rfl, hown2, hR2, hCl2, hb2⟩
                case measure => simp [intOf]; omega
        · obtain rfl : s = n := by omega
          go_wp2
          go_ret
          exact ⟨c, w.heap.size, rfl, Nat.le_refl _, hR, hCl, hbel2⟩

end Go.Proofs.Qxb6603043a
