import Derived.Test.Qxb6603043aKeyV
import Derived.Test.Qxb6603043aComp
namespace Go.Proofs.Qxb6603043a
open Go.RowKit Go.Maps
open UF

def kfK (X : Nat → B1) (kap : Nat → Nat) (k i : Nat) : Int := if i < k then (if kB X i = true then (kap i : Int) else -1) else 0
def cn (X : Nat → B1) (kap : Nat → Nat) (k j : Nat) : Nat := (filt (prG (kB X) kap j) k).length
def cfK (X : Nat → B1) (kap : Nat → Nat) (k j : Nat) : Int := (cn X kap k j : Int)

theorem kf_zero (X : Nat → B1) (kap : Nat → Nat) : (fun _ => 0) = kfK X kap 0 := by funext i; simp [kfK]
theorem cf_zero (X : Nat → B1) (kap : Nat → Nat) : (fun _ => 0) = cfK X kap 0 := by funext i; simp [cfK, cn, filt]
theorem kf_skip {X : Nat → B1} {kap : Nat → Nat} {k : Nat} (h : kB X k = false) : upd (kfK X kap k) k (-1) = kfK X kap (k + 1) := by
  funext i
  by_cases e : i = k
  · subst e; rw [upd_same]; simp [kfK, h]
  · rw [upd_other _ _ e]
    unfold kfK
    by_cases h1 : i < k
    · rw [if_pos h1, if_pos (show i < k + 1 by omega)]
    · rw [if_neg h1, if_neg (show ¬ i < k + 1 by omega)]
theorem kf_hit {X : Nat → B1} {kap : Nat → Nat} {k : Nat} (h : kB X k = true) : upd (upd (kfK X kap k) k (-1)) k (kap k) = kfK X kap (k + 1) := by
  funext i
  by_cases e : i = k
  · subst e; rw [upd_same]; simp [kfK, h]
  · rw [upd_other _ _ e, upd_other _ _ e]
    unfold kfK
    by_cases h1 : i < k
    · rw [if_pos h1, if_pos (show i < k + 1 by omega)]
    · rw [if_neg h1, if_neg (show ¬ i < k + 1 by omega)]
theorem cn_skip {X : Nat → B1} {kap : Nat → Nat} {k j : Nat} (h : kB X k = false) : cn X kap (k + 1) j = cn X kap k j := by
  unfold cn
  rw [filt_succ, if_neg (by simp [prG, h])]
theorem grp_hit {X : Nat → B1} {kap : Nat → Nat} {k : Nat} (h : kB X k = true) : filt (prG (kB X) kap (kap k)) (k + 1) = filt (prG (kB X) kap (kap k)) k ++ [k] := by
  rw [filt_succ, if_pos (by simp [prG, h])]
theorem grp_other {X : Nat → B1} {kap : Nat → Nat} {k j : Nat} (h : j ≠ kap k) : filt (prG (kB X) kap j) (k + 1) = filt (prG (kB X) kap j) k := by
  have : (kap k == j) = false := by rw [beq_eq_false_iff_ne]; exact fun e => h e.symm
  rw [filt_succ, if_neg (by simp [prG, this])]
theorem cf_skip {X : Nat → B1} {kap : Nat → Nat} {k : Nat} (h : kB X k = false) : cfK X kap k = cfK X kap (k + 1) := by
  funext j
  unfold cfK
  rw [cn_skip h]
theorem cn_hit {X : Nat → B1} {kap : Nat → Nat} {k : Nat} (h : kB X k = true) : cn X kap (k + 1) (kap k) = cn X kap k (kap k) + 1 := by
  unfold cn
  rw [grp_hit h]
  simp
theorem cf_hit {X : Nat → B1} {kap : Nat → Nat} {k : Nat} (h : kB X k = true) : upd (cfK X kap k) (kap k) ((cn X kap k (kap k) : Int) + 1) = cfK X kap (k + 1) := by
  funext j
  by_cases e : j = kap k
  · subst e; rw [upd_same]; unfold cfK; rw [cn_hit h]; simp
  · rw [upd_other _ _ e]
    unfold cfK cn
    rw [grp_other e]

theorem SK.start {w w1 : World} {mb n m : Nat} {F : ByteArray → Option Nat} (X : Nat → B1) (kap : Nat → Nat) (hm : MapIs w1 42 mb m litS F) (ho : w.heap.size ≤ mb) (hb : Below w.heap.size w w1) :
    SK w n m mb w1.heap.size (w1.heap.size + 1) F (kfK X kap 0) (cfK X kap 0) ((w1.alloc (.cells (madeCells #[.int .i64 0] n) 3)).alloc (.cells (madeCells #[.int .i64 0] m) 3)) := by
  have hl := hm.lt
  have g1 := World.grownBy_alloc w1 (.cells (madeCells #[.int .i64 0] n) 3) none
  have g2 := World.grownBy_alloc (w1.alloc (.cells (madeCells #[.int .i64 0] n) 3)) (.cells (madeCells #[.int .i64 0] m) 3) none
  have hs := hb.size
  have r := IntRow.made (w1.alloc (.cells (madeCells #[.int .i64 0] n) 3)) m
  rw [show (w1.alloc (.cells (madeCells #[.int .i64 0] n) 3)).heap.size = w1.heap.size + 1 from by simp] at r
  rw [← kf_zero, ← cf_zero]
  refine ⟨(hm.kept g1 (fun e => by cases e)).kept g2 (fun e => by cases e), (IntRow.made w1 n).kept g2 (fun e => by cases e), r, (hb.alloc hs _).alloc (by simp; omega) _, ho, hl, by omega⟩

/-- The second and third stages. -/
structure S3 (w0 : World) (n m tot kb cb ab rb : Nat) (X : Nat → B1) (kap : Nat → Nat) (rv : Nat → Value) (L : Nat → List Nat) (w : World) : Prop where
  kr : IntRow w kb n (kfK X kap n)
  cr : IntRow w cb m (cfK X kap n)
  r : VRow w rb 32 m rv
  al : AllB w ab tot m (cn X kap n) L X
  bel : Below w0.heap.size w0 w
  o1 : w0.heap.size ≤ kb
  o2 : kb < cb
  o3 : cb < ab
  o4 : ab < rb

theorem S3.grow {w0 : World} {n m tot kb cb ab rb : Nat} {X : Nat → B1} {kap : Nat → Nat} {rv : Nat → Value} {L : Nat → List Nat} {w w' : World} (h : S3 w0 n m tot kb cb ab rb X kap rv L w) (hg : w.grownBy w' none) : S3 w0 n m tot kb cb ab rb X kap rv L w' := by
  have := h.kr.lt
  have o1 := h.o1
  exact ⟨h.kr.kept hg (fun e => by cases e), h.cr.kept hg (fun e => by cases e), h.r.kept hg (fun e => by cases e), h.al.kept hg (fun e => by cases e), h.bel.grown hg (by omega) (fun k e => by cases e), h.o1, h.o2, h.o3, h.o4⟩

def rv2 (ab : Nat) (cnt : Nat → Nat) (q j : Nat) : Value := if j < q then sliceA ab cnt j 0 else .slice none 0 0
def rv3 (ab : Nat) (cnt : Nat → Nat) (X : Nat → B1) (kap : Nat → Nat) (k j : Nat) : Value := sliceA ab cnt j (cn X kap k j)
def grp (X : Nat → B1) (kap : Nat → Nat) (k j : Nat) : List Nat := filt (prG (kB X) kap j) k

theorem rv2_step (ab : Nat) (cnt : Nat → Nat) (q : Nat) : upd (rv2 ab cnt q) q (sliceA ab cnt q 0) = rv2 ab cnt (q + 1) := by
  funext j
  by_cases e : j = q
  · subst e; rw [upd_same]; simp [rv2]
  · rw [upd_other _ _ e]
    unfold rv2
    by_cases h1 : j < q
    · rw [if_pos h1, if_pos (show j < q + 1 by omega)]
    · rw [if_neg h1, if_neg (show ¬ j < q + 1 by omega)]

theorem S3.start {w0 : World} {n m mb kb cb tot : Nat} {F : ByteArray → Option Nat} {X : Nat → B1} {kap : Nat → Nat} {w : World} (h : SK w0 n m mb kb cb F (kfK X kap n) (cfK X kap n) w) (c : Array Value) :
    S3 w0 n m tot kb cb w.heap.size (w.heap.size + 1) X kap (rv2 w.heap.size (cn X kap n) 0) (grp X kap 0) ((w.alloc (.cells (madeCells c (tot * 11)) 50)).alloc (.cells (madeCells #[.slice none 0 0] m) 32)) := by
  have g1 := World.grownBy_alloc w (.cells (madeCells c (tot * 11)) 50) none
  have g2 := World.grownBy_alloc (w.alloc (.cells (madeCells c (tot * 11)) 50)) (.cells (madeCells #[.slice none 0 0] m) 32) none
  have h1 := h.kr.lt
  have h2 := h.cr.lt
  have o1 := h.o1; have o2 := h.o2; have o3 := h.o3
  have a1 : AllB (w.alloc (.cells (madeCells c (tot * 11)) 50)) w.heap.size tot m (cn X kap n) (grp X kap 0) X := ⟨_, heap_alloc_new _ _, size_madeCells _ _, fun j hj t i ht => by simp [grp, filt] at ht⟩
  have r1 : VRow ((w.alloc (.cells (madeCells c (tot * 11)) 50)).alloc (.cells (madeCells #[.slice none 0 0] m) 32)) (w.heap.size + 1) 32 m (rv2 w.heap.size (cn X kap n) 0) := by
    have e : (w.alloc (.cells (madeCells c (tot * 11)) 50)).heap.size = w.heap.size + 1 := by simp
    rw [← e]
    refine ⟨_, heap_alloc_new _ _, size_madeCells _ _, fun i hi => ?_⟩
    have := congrArg (·[i]?) (toList_madeCells_one (.slice none 0 0) m)
    simpa [hi, rv2] using this
  exact ⟨(h.kr.kept g1 (fun e => by cases e)).kept g2 (fun e => by cases e), (h.cr.kept g1 (fun e => by cases e)).kept g2 (fun e => by cases e), r1, a1.kept g2 (fun e => by cases e), (h.bel.alloc (by omega) _).alloc (by simp; omega) _, by omega, by omega, by omega, by omega⟩

theorem S3.setr {w0 : World} {n m tot kb cb ab rb : Nat} {X : Nat → B1} {kap : Nat → Nat} {rv : Nat → Value} {L : Nat → List Nat} {w : World} (h : S3 w0 n m tot kb cb ab rb X kap rv L w) {q : Nat} (hq : q < m) (v : Value) : S3 w0 n m tot kb cb ab rb X kap (upd rv q v) L (w.setCell ⟨rb, q, none⟩ v) := by
  have g := grown_setCell w rb q v
  have o1 := h.o1; have o2 := h.o2; have o3 := h.o3; have o4 := h.o4
  exact ⟨h.kr.kept g (ne_some (by omega)), h.cr.kept g (ne_some (by omega)), h.r.set hq v, h.al.kept g (ne_some (by omega)), h.bel.setCell (p := ⟨rb, q, none⟩) (by show w0.heap.size ≤ rb; omega) _, o1, o2, o3, o4⟩

theorem grown_setCells (b : Nat) : ∀ (vs : List Value) (o : Nat) (w : World), w.grownBy (w.setCells b o vs) (some b)
  | [], _, w => (Only.refl b w).grown
  | v :: r, o, w => (grown_setCell w b o v).trans (grown_setCells b r (o + 1) _)

theorem S3.app {w0 : World} {n m tot kb cb ab rb k : Nat} {X : Nat → B1} {kap : Nat → Nat} {w : World} (h : S3 w0 n m tot kb cb ab rb X kap (rv3 ab (cn X kap n) X kap k) (grp X kap k) w) (htot : sumTo (cn X kap n) m = tot) (hk : k < n) (hkb : kB X k = true) (hq : kap k < m) :
    S3 w0 n m tot kb cb ab rb X kap (rv3 ab (cn X kap n) X kap (k + 1)) (grp X kap (k + 1)) ((w.setCells ab (offA (cn X kap n) (kap k) + cn X kap k (kap k) * 11) (cellsOp (X k))).setCell ⟨rb, kap k, none⟩ (sliceA ab (cn X kap n) (kap k) (cn X kap k (kap k) + 1))) := by
  have g := grown_setCells ab (cellsOp (X k)) (offA (cn X kap n) (kap k) + cn X kap k (kap k) * 11) w
  have o1 := h.o1; have o2 := h.o2; have o3 := h.o3; have o4 := h.o4
  have hlt : cn X kap k (kap k) < cn X kap n (kap k) := (filt_get (pr := prG (kB X) kap (kap k)) hk (by simp [prG, hkb])).1
  have e1 : offA (cn X kap n) (kap k) = sumTo (cn X kap n) (kap k) * 11 := by unfold offA; rw [if_neg (by omega)]
  have a1 := h.al.app (i := k) (fun j _ => prG_length_mono (kB X) kap j (Nat.le_of_lt hk)) htot hq hlt
  have a2 : AllB (w.setCells ab (offA (cn X kap n) (kap k) + cn X kap k (kap k) * 11) (cellsOp (X k))) ab tot m (cn X kap n) (grp X kap (k + 1)) X := by
    rw [e1]
    refine AllB.congr a1 (fun j _ => ?_)
    by_cases e : j = kap k
    · subst e; rw [upd_same]; exact (grp_hit hkb).symm
    · rw [upd_other _ _ e]; exact (grp_other e).symm
  have s : S3 w0 n m tot kb cb ab rb X kap (rv3 ab (cn X kap n) X kap k) (grp X kap (k + 1)) (w.setCells ab (offA (cn X kap n) (kap k) + cn X kap k (kap k) * 11) (cellsOp (X k))) :=
    ⟨h.kr.kept g (ne_some (by omega)), h.cr.kept g (ne_some (by omega)), h.r.kept g (ne_some (by omega)), a2, below_setCells ab (by omega) _ _ _ h.bel, o1, o2, o3, o4⟩
  have s2 := s.setr hq (sliceA ab (cn X kap n) (kap k) (cn X kap k (kap k) + 1))
  have e2 : upd (rv3 ab (cn X kap n) X kap k) (kap k) (sliceA ab (cn X kap n) (kap k) (cn X kap k (kap k) + 1)) = rv3 ab (cn X kap n) X kap (k + 1) := by
    funext j
    by_cases e : j = kap k
    · subst e; rw [upd_same]; unfold rv3; rw [cn_hit hkb]
    · rw [upd_other _ _ e]
      unfold rv3 cn
      rw [grp_other e]
  rw [e2] at s2
  exact s2

theorem S3.skip {w0 : World} {n m tot kb cb ab rb k : Nat} {X : Nat → B1} {kap : Nat → Nat} {w : World} (h : S3 w0 n m tot kb cb ab rb X kap (rv3 ab (cn X kap n) X kap k) (grp X kap k) w) (hkb : kB X k = false) :
    S3 w0 n m tot kb cb ab rb X kap (rv3 ab (cn X kap n) X kap (k + 1)) (grp X kap (k + 1)) w := by
  have e : ∀ j, filt (prG (kB X) kap j) (k + 1) = filt (prG (kB X) kap j) k := fun j => by rw [filt_succ, if_neg (by simp [prG, hkb])]
  have e1 : rv3 ab (cn X kap n) X kap (k + 1) = rv3 ab (cn X kap n) X kap k := by funext j; unfold rv3 cn; rw [e]
  have e2 : grp X kap (k + 1) = grp X kap k := by funext j; unfold grp; rw [e]
  rw [e1, e2]
  exact h

theorem rv23 (ab m : Nat) (cnt : Nat → Nat) (X : Nat → B1) (kap : Nat → Nat) : ∀ j, j < m → rv2 ab cnt m j = rv3 ab cnt X kap 0 j := fun j hj => by
  simp [rv2, rv3, hj, cn, filt]

theorem S3.turn {w0 : World} {n m tot kb cb ab rb : Nat} {X : Nat → B1} {kap : Nat → Nat} {L : Nat → List Nat} {w : World} (h : S3 w0 n m tot kb cb ab rb X kap (rv2 ab (cn X kap n) m) L w) : S3 w0 n m tot kb cb ab rb X kap (rv3 ab (cn X kap n) X kap 0) L w :=
  ⟨h.kr, h.cr, h.r.congr (rv23 ab m _ X kap), h.al, h.bel, h.o1, h.o2, h.o3, h.o4⟩

theorem S3.done {w0 : World} {n m tot kb cb ab rb : Nat} {X : Nat → B1} {kap : Nat → Nat} {w : World} (h : S3 w0 n m tot kb cb ab rb X kap (rv3 ab (cn X kap n) X kap n) (grp X kap n) w) : GrpsK w (some ⟨rb, 0, none⟩) m (grp X kap n) X :=
  grpsK_of (h.r) h.al (fun _ _ => rfl)

end Go.Proofs.Qxb6603043a
