import Derived.Test.Qxb6603043aBase
import Derived.Test.Qxb6603043aUF
import Derived.Deep.RegionWith
import Derived.Deep.RegionHeld3
import Derived.Deep.DrawnRows
namespace Go.Proofs.Qxb6603043a
open Go.RowKit
open UF

/-- Block 'B' is a row of the 'n' ints 'f 0', 'f 1' .., not frozen. -/
def IntRow (w : World) (B n : Nat) (f : Nat → Int) : Prop :=
  ∃ cur : Array Value, w.heap[B]? = some (.cells cur 3 (0, 0)) ∧ cur.size = n ∧ ∀ i, i < n → cur[i]? = some (.int .i64 (f i))

theorem IntRow.cell {w : World} {B n : Nat} {f : Nat → Int} (h : IntRow w B n f) {i : Nat} (hi : i < n) : w.cell? ⟨B, i, none⟩ = some (.int .i64 (f i)) := by
  obtain ⟨cur, hh, hs, hc⟩ := h
  rw [cell_of_row w B i cur 3 (0, 0) hh]
  exact hc i hi

theorem IntRow.free {w : World} {B n : Nat} {f : Nat → Int} (h : IntRow w B n f) (i : Nat) : w.frozen? ⟨B, i, none⟩ = false := by
  obtain ⟨cur, hh, _, _⟩ := h
  exact frozen_of_row w B i cur 3 hh

theorem IntRow.lt {w : World} {B n : Nat} {f : Nat → Int} (h : IntRow w B n f) : B < w.heap.size := by
  obtain ⟨cur, hh, _, _⟩ := h
  exact (Array.getElem?_eq_some_iff.1 hh).1

theorem IntRow.set {w : World} {B n : Nat} {f : Nat → Int} (h : IntRow w B n f) {k : Nat} (hk : k < n) (v : Int) : IntRow (w.setCell ⟨B, k, none⟩ (.int .i64 v)) B n (upd f k v) := by
  obtain ⟨cur, hh, hs, hc⟩ := h
  refine ⟨_, heap_setCell_same w B k cur 3 _ hh, by simp [hs], fun i hi => ?_⟩
  rw [Array.getElem?_setIfInBounds]
  by_cases e : k = i
  · subst e
    simp [hs, hk, upd_same]
  · rw [if_neg e, upd_other _ _ (fun e2 => e e2.symm)]
    exact hc i hi

theorem IntRow.congr {w : World} {B n : Nat} {f g : Nat → Int} (h : IntRow w B n f) (hg : ∀ i, i < n → f i = g i) : IntRow w B n g := by
  obtain ⟨cur, hh, hs, hc⟩ := h
  exact ⟨cur, hh, hs, fun i hi => by rw [← hg i hi]; exact hc i hi⟩

theorem IntRow.block {w w' : World} {B n : Nat} {f : Nat → Int} (h : IntRow w B n f) (hb : w'.heap[B]? = w.heap[B]?) : IntRow w' B n f := by
  obtain ⟨cur, hh, hs, hc⟩ := h
  exact ⟨cur, hb.trans hh, hs, hc⟩

theorem IntRow.drew {w : World} {B n : Nat} {f : Nat → Int} (h : IntRow w B n f) : IntRow w.drew B n f := h

/-- 'w'' is 'w' but for block 'b'. -/
structure Only (b : Nat) (w w' : World) : Prop where
  os : w'.os = w.os
  tape : w'.tape = w.tape
  output : w'.output = w.output
  size : w'.heap.size = w.heap.size
  block : ∀ k, k ≠ b → w'.heap[k]? = w.heap[k]?

theorem Only.refl (b : Nat) (w : World) : Only b w w := ⟨rfl, rfl, rfl, rfl, fun _ _ => rfl⟩
theorem Only.trans {b : Nat} {w w' w'' : World} (h : Only b w w') (h' : Only b w' w'') : Only b w w'' :=
  ⟨h'.os.trans h.os, h'.tape.trans h.tape, h'.output.trans h.output, h'.size.trans h.size, fun k hk => (h'.block k hk).trans (h.block k hk)⟩
theorem Only.setCell {b : Nat} {w w' : World} (h : Only b w w') (i : Nat) (v : Value) : Only b w (w'.setCell ⟨b, i, none⟩ v) :=
  h.trans ⟨rfl, rfl, rfl, by simp, fun k hk => heap_setCell_other _ _ _ _ hk⟩
theorem Only.drew {b : Nat} {w w' : World} (h : Only b w w') : Only b w w'.drew := ⟨h.os, h.tape, h.output, h.size, h.block⟩
theorem Only.below {b B : Nat} {w w' : World} (h : Only b w w') (hb : B ≤ b) : Below B w w' := ⟨h.os, h.tape, h.output, Nat.le_of_eq h.size.symm, fun k hk => h.block k (by omega)⟩
theorem Only.cell {b : Nat} {w w' : World} (h : Only b w w') {p : Addr} (hp : p.block ≠ b) : w'.cell? p = w.cell? p := World.cell?_of_block (w := w) (h.block p.block hp)

theorem ret_int {k : IntKind} {a b : Int} (h : a = b) : Ending.returned (.int k a) = .returned (.int k b) := by rw [h]

set_option maxHeartbeats 1000000 in
theorem find_any (i bv br n m : Nat) (rt R : Nat → Nat) (w : World) (hm : m ≤ n) (hi : i < m) (hv : w.cell? ⟨bv, 0, none⟩ = some (.slice (some ⟨br, 0, none⟩) n n)) (hne : bv ≠ br)
    (hR : IntRow w br n (fun j => (rt j : Int))) (hF : Forest m rt R) :
    Calls Try.prog 30 #[.int .i64 i, .pointer (some ⟨bv, 0, none⟩)] w fun e w' => ∃ rt', e = .returned (.int .i64 (R i)) ∧ IntRow w' br n (fun j => ((rt' : Nat → Nat) j : Int)) ∧ Forest m rt' R ∧ Only br w w' := by
  go_enter Try.func30, Try.ntmps30
  go_wp2
  go_loopw [0] (fun x wr => ∃ (j : Nat) (rt' : Nat → Nat), x = .int .i64 j ∧ j < m ∧ Hid (R j = R i) ∧ IntRow wr br n (fun j => (rt' j : Int)) ∧ Forest m rt' R ∧ Only br w wr) (fun x _ => (intOf x).toNat)
  case atStart => exact ⟨i, rt, rfl, hi, rfl, hR, hF, Only.refl _ _⟩
  case round =>
    obtain ⟨j, rt', rfl, hj, HRj, hRr, hFr, ho⟩ := hrel
    have c0 : wr.cell? ⟨bv, 0, none⟩ = some (.slice (some ⟨br, 0, none⟩) n n) := (ho.cell (p := ⟨bv, 0, none⟩) hne).trans hv
    have c1 := hRr.cell (i := j) (by omega)
    have l1 := hFr.le j hj
    have l2 := hFr.le (rt' j) (by omega)
    have c2 := hRr.cell (i := rt' j) (by omega)
    have f1 := hRr.free j
    have g1 : (0 : Int) ≤ (j : Int) := by omega
    have g2 : (j : Int) < (n : Int) := by omega
    have g3 : (0 : Int) ≤ (rt' j : Int) := by omega
    have g4 : (rt' j : Int) < (n : Int) := by omega
    have h1 := hRr.set (k := j) (by omega) (rt' (rt' j) : Int)
    obtain ⟨p, hp⟩ : ∃ p, p = rt' j := ⟨_, rfl⟩
    obtain ⟨q, hq⟩ : ∃ q, q = rt' (rt' j) := ⟨_, rfl⟩
    have HP : Hid (p = rt' j) := hp
    have HQ : Hid (q = rt' (rt' j)) := hq
    rw [← hq] at h1
    rw [← hq] at c2
    rw [← hp] at c1 c2 g3 g4 l1
    have l3 : q ≤ p := by omega
    by_cases he : p = j
    · have he' : ((p : Int) != (j : Int)) = false := by simp [he]
      clear hp hq l2 HQ h1
      go_wp2
      go_ret
      have hfix := hFr.fix j hj (by rw [← HP.out]; exact he)
      exact ⟨rt', ret_int (by rw [← HRj.out, hfix]), hRr, hFr, ho⟩
    · have he' : ((p : Int) != (j : Int)) = true := by rw [bne_iff_ne]; omega
      clear hp hq l2
      go_wp2
      go_region
      go_wp2
      go_roundw
      case rel =>
        refine ⟨q, upd rt' j q, rfl, by omega, ?_, ?_, ?_, (ho.setCell j _).drew⟩
        · show R q = R i
          rw [← HRj.out, HQ.out, hFr.step (rt' j) (by rw [← HP.out]; omega), hFr.step j hj]
        · refine (h1.drew).congr (fun x _ => ?_)
          by_cases e : x = j
          · subst e; rw [upd_same, upd_same]
          · rw [upd_other _ _ e, upd_other _ _ e]
        · rw [HQ.out]
          exact hFr.halve hj (by rw [← HP.out]; exact he)
      case measure => simp [intOf]; omega

/-- What stands between the calls of 'find'. -/
structure UInv (w0 : World) (bf bv br n m : Nat) (R : Nat → Nat) (w : World) : Prop where
  f : w.cell? ⟨bf, 0, none⟩ = some (.func (.func 30) #[] #[.pointer (some ⟨bv, 0, none⟩)])
  v : w.cell? ⟨bv, 0, none⟩ = some (.slice (some ⟨br, 0, none⟩) n n)
  ex : ∃ rt : Nat → Nat, IntRow w br n (fun j => (rt j : Int)) ∧ Forest m rt R
  only : Only br w0 w

theorem UInv.drew {w0 : World} {bf bv br n m : Nat} {R : Nat → Nat} {w : World} (h : UInv w0 bf bv br n m R w) : UInv w0 bf bv br n m R w.drew := ⟨h.f, h.v, h.ex, h.only.drew⟩

theorem find_inv (i bf bv br n m : Nat) (R : Nat → Nat) (w0 w : World) (hm : m ≤ n) (hi : i < m) (hne : bv ≠ br) (hne2 : bf ≠ br) (hU : UInv w0 bf bv br n m R w) :
    Calls Try.prog 30 #[.int .i64 i, .pointer (some ⟨bv, 0, none⟩)] w fun e w' => e = .returned (.int .i64 (R i)) ∧ UInv w0 bf bv br n m R w' := by
  obtain ⟨rt, hR, hF⟩ := hU.ex
  refine (find_any i bv br n m rt R w hm hi hU.v hne hR hF).mono ?_
  rintro e w' ⟨rt', rfl, h1, h2, h3⟩
  exact ⟨rfl, ⟨(h3.cell (p := ⟨bf, 0, none⟩) hne2).trans hU.f, (h3.cell (p := ⟨bv, 0, none⟩) hne).trans hU.v, ⟨rt', h1, h2⟩, hU.only.trans h3⟩⟩

theorem UInv.store {w0 : World} {bf bv br n m : Nat} {R R' : Nat → Nat} {w : World} {rt : Nat → Nat} {M N M' N' : Nat} (h : UInv w0 bf bv br n m R w) (hR : IntRow w br n (fun j => (rt j : Int))) (hF : Forest m (upd rt M N) R') (hM : M' < n)
    (hne : bv ≠ br) (hne2 : bf ≠ br) (e1 : M = M') (e2 : N = N') : UInv w0 bf bv br n m R' (w.setCell ⟨br, M', none⟩ (.int .i64 (N' : Int))) := by
  subst e1 e2
  refine ⟨?_, ?_, ⟨upd rt M N, (hR.set hM N).congr (fun x _ => ?_), hF⟩, h.only.setCell M _⟩
  · rw [World.cell?_setCell_other _ _ _ _ (fun e => hne2 (by cases e; rfl))]
    exact h.f
  · rw [World.cell?_setCell_other _ _ _ _ (fun e => hne (by cases e; rfl))]
    exact h.v
  · by_cases e : x = M
    · subst e; rw [upd_same, upd_same]
    · rw [upd_other _ _ e, upd_other _ _ e]

attribute [local go_sem ↓] Go.wp_at_zero Go.wp_at_succ

set_option maxHeartbeats 2000000 in
theorem join_any (i j bf bv br n m : Nat) (R : Nat → Nat) (w0 w : World) (hn : n ≤ 65536) (hm : m ≤ n) (hi : i < m) (hj : j < m) (hne : bv ≠ br) (hne2 : bf ≠ br) (hU : UInv w0 bf bv br n m R w) :
    Calls Try.prog 31 #[.int .i64 i, .int .i64 j, .pointer (some ⟨bf, 0, none⟩), .pointer (some ⟨bv, 0, none⟩)] w fun e w' => e = .returned (.tuple #[]) ∧ UInv w0 bf bv br n m (joinR R (max (R i) (R j)) (min (R i) (R j))) w' := by
  have c0 := hU.f
  go_enter Try.func31, Try.ntmps31
  go_wp2_with fail
  go_region_held3 (fun w' => w'.cell? ⟨bf, 0, none⟩ = some (.func (.func 30) #[] #[.pointer (some ⟨bv, 0, none⟩)]) ∧ UInv w0 bf bv br n m R w') (first | exact ⟨hU.drew.f, hU.drew⟩ | (refine ⟨UInv.f (w0 := w0) (br := br) (n := n) (m := m) (R := R) ?_, ?_⟩ <;> assumption))
    (first | (go_at_call_of 30 (Value.int .i64 (i : Int)); refine (find_inv i bf bv br n m R w0 _ hm hi hne hne2 ?_).mono ?_; (first | assumption | exact hU.drew | exact (And.right (by assumption))); rintro e w1 ⟨rfl, hU1⟩) | (go_at_call_of 30 (Value.int .i64 (j : Int)); refine (find_inv j bf bv br n m R w0 _ hm hj hne hne2 ?_).mono ?_; (first | assumption | exact hU.drew | exact (And.right (by assumption))); rintro e w1 ⟨rfl, hU1⟩))
  have c1 := hU1.v
  obtain ⟨rt, hR, hF⟩ := hU1.ex
  have l1 := hF.rle i hi
  have l2 := hF.rle j hj
  have k1 := hR.cell (i := R i) (by omega)
  have k2 := hR.cell (i := R j) (by omega)
  have f1 := hR.free (R i)
  have f2 := hR.free (R j)
  have hJ := (hF.join hi hj).1
  have HJ : Hid (Forest m (upd rt (max (R i) (R j)) (min (R i) (R j))) (joinR R (max (R i) (R j)) (min (R i) (R j)))) := hJ
  have b1 : R i ≤ 65536 := by omega
  have b2 : R j ≤ 65536 := by omega
  have b3 : (R i : Int) < (n : Int) := by omega
  have b4 : (R j : Int) < (n : Int) := by omega
  clear hJ
  by_cases hlt : R i < R j
  · go_wp2
    go_end0
    exact ⟨rfl, hU1.store hR HJ.out (by omega) hne hne2 (by omega) (by omega)⟩
  · go_wp2
    all_goals go_end0
    all_goals exact ⟨rfl, hU1.store hR HJ.out (by omega) hne hne2 (by omega) (by omega)⟩

end Go.Proofs.Qxb6603043a
