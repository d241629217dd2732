import Derived.Test.Qxb6603043aBuild
import Derived.Test.Qxb6603043aMaps
import Derived.Laws.EntriesVeiled
import Derived.Deep.DeepCutAuto
namespace Go.Proofs.Qxb6603043a
open Go.RowKit Go.Maps
open UF

theorem info3 : (Try.prog.info? 3).map (fun i => (i.zero, i.size, i.bytes)) = some (some (.int .i64 0), 1, 8) := by kernel_rfl

theorem cell_later1 {w : World} {a : Addr} {v : Value} (h : w.cell? a = some v) (o : Obj) : (w.alloc o).cell? a = some v := (World.cell?_alloc_lt w o a (World.block_lt_of_cell? _ _ h)).trans h
theorem cell_later5 {w : World} {a : Addr} {v : Value} (h : w.cell? a = some v) (o1 o2 o3 o4 o5 : Obj) : (((((w.alloc o1).alloc o2).alloc o3).alloc o4).alloc o5).cell? a = some v :=
  cell_later1 (cell_later1 (cell_later1 (cell_later1 (cell_later1 h o1) o2) o3) o4) o5

theorem Only.grown {b : Nat} {w w' : World} (h : Only b w w') : w.grownBy w' (some b) := ⟨h.os, h.tape, h.output, Nat.le_of_eq h.size.symm, fun k _ hne => h.block k (fun e => hne (by rw [e]))⟩

theorem grown_setCell (w : World) (b i : Nat) (v : Value) : w.grownBy (w.setCell ⟨b, i, none⟩ v) (some b) := (Only.setCell (Only.refl b w) i v).grown

theorem IntRow.kept {w w' : World} {B n : Nat} {f : Nat → Int} {row : Option Nat} (h : IntRow w B n f) (hg : w.grownBy w' row) (hne : some B ≠ row) : IntRow w' B n f := h.block (hg.block B h.lt hne)

theorem UInv.kept {w w' : World} {bf bv br n m : Nat} {R : Nat → Nat} {row : Option Nat} (h : UInv w bf bv br n m R w) (hg : w.grownBy w' row) (h1 : some bf ≠ row) (h2 : some bv ≠ row) (h3 : some br ≠ row) : UInv w' bf bv br n m R w' := by
  obtain ⟨rt, hR, hF⟩ := h.ex
  exact ⟨hg.cell h.f h1, hg.cell h.v h2, ⟨rt, hR.kept hg h3, hF⟩, Only.refl _ _⟩

/-- Process and key. -/
def pp (X : Nat → B1) (i : Nat) : Int := (X i).p
def kk (X : Nat → B1) (i : Nat) : ByteArray := (X i).k
def Adj (X : Nat → B1) (a b : Nat) : Prop := pp X a = pp X b ∨ kk X a = kk X b

/-- A stage of the first loop: 'kp' of the processes, 'kq' of the keys and 'km' of the roots are done. -/
structure St (w0 : World) (n : Nat) (X : Nat → B1) (s kp kq km : Nat) (R : Nat → Nat) (F1 : Int → Option Nat) (F2 : ByteArray → Option Nat) (w : World) : Prop where
  u : UInv w (s + 1 + 1) (s + 1) s n km R w
  conn : ∀ j, j < km → Conn n (Adj X) j (R j)
  dp : Done kp (pp X) R
  dq : Done kq (kk X) R
  m1 : MapIs w 2 (s + 1 + 1 + 1) kp litI F1
  m2 : MapIs w 42 (s + 1 + 1 + 1 + 1) kq litS F2
  f1 : Firsts kp (pp X) F1
  f2 : Firsts kq (kk X) F2
  bel : Below s w0 w

theorem ne_some {a b : Nat} (h : a ≠ b) : some a ≠ some b := fun e => h (Option.some.inj e)

/-- 'root[i] = i' for the next one. -/
theorem St.push {w0 : World} {n : Nat} {X : Nat → B1} {s k : Nat} {R : Nat → Nat} {F1 : Int → Option Nat} {F2 : ByteArray → Option Nat} {w : World} (h : St w0 n X s k k k R F1 F2 w) (hk : k < n) (o : Obj) :
    St w0 n X s k k (k + 1) (upd R k k) F1 F2 ((w.alloc o).setCell ⟨s, k, none⟩ (.int .i64 (k : Int))) := by
  have g1 := World.grownBy_alloc w o (some s)
  have g2 := grown_setCell (w.alloc o) s k (.int .i64 (k : Int))
  have g := g1.trans g2
  obtain ⟨rt, hR, hF⟩ := h.u.ex
  have hs := h.m2.lt
  refine ⟨⟨g.cell h.u.f (ne_some (a := s + 1 + 1) (by omega)), g.cell h.u.v (ne_some (a := s + 1) (by omega)), ⟨upd rt k k, ?_, hF.push _ (fun j hj => upd_other _ _ (by omega)) (upd_same _ _ _)⟩, Only.refl _ _⟩, fun j hj => ?_, fun a b ha hb e => ?_, fun a b ha hb e => ?_, h.m1.kept g (ne_some (by omega)), h.m2.kept g (ne_some (by omega)), h.f1, h.f2,
    (h.bel.alloc (by omega) o).setCell (p := ⟨s, k, none⟩) (Nat.le_refl _) _⟩
  · have h1 := hR.kept (World.grownBy_alloc w o none) (fun e => by cases e)
    refine (h1.set hk (k : Int)).congr (fun x _ => ?_)
    by_cases e : x = k
    · subst e; rw [upd_same, upd_same]
    · rw [upd_other _ _ e, upd_other _ _ e]
  · by_cases e : j = k
    · subst e; rw [upd_same]; exact Conn.refl _
    · rw [upd_other _ _ e]; exact h.conn j (by omega)
  · rw [upd_other _ _ (by omega), upd_other _ _ (by omega)]; exact h.dp a b ha hb e
  · rw [upd_other _ _ (by omega), upd_other _ _ (by omega)]; exact h.dq a b ha hb e

/-- A step that writes neither the roots nor what leads to them. -/
theorem St.joinP {w0 : World} {n : Nat} {X : Nat → B1} {s k : Nat} {R : Nat → Nat} {F1 : Int → Option Nat} {F2 : ByteArray → Option Nat} {w w' : World} (h : St w0 n X s k k (k + 1) R F1 F2 w) (hk : k < n) {j : Nat} (hj : F1 (pp X k) = some j)
    (hU : UInv w (s + 1 + 1) (s + 1) s n (k + 1) (joinR R (max (R k) (R j)) (min (R k) (R j))) w') : St w0 n X s (k + 1) k (k + 1) (joinR R (max (R k) (R j)) (min (R k) (R j))) F1 F2 w' := by
  obtain ⟨rt, hR, hF⟩ := h.u.ex
  obtain ⟨j1, j2⟩ := h.f1.hits _ _ hj
  have hs := h.m2.lt
  have hJ := (hF.join (i := k) (j := j) (by omega) (by omega)).2
  have g := hU.only.grown
  exact ⟨⟨hU.f, hU.v, hU.ex, Only.refl _ _⟩, conn_join h.conn (by omega) (by omega) (Conn.of_adj (by omega) (by omega) (.inl j2.symm)), h.dp.hit h.f1 hj (finer_joinR _ _ _) hJ, h.dq.finer (finer_joinR _ _ _),
    (h.m1.kept g (ne_some (by omega))).mono (Nat.le_succ _), h.m2.kept g (ne_some (by omega)), h.f1.hit hj, h.f2, h.bel.trans (hU.only.below (Nat.le_refl _))⟩

theorem St.newP {w0 : World} {n : Nat} {X : Nat → B1} {s k : Nat} {R : Nat → Nat} {F1 : Int → Option Nat} {F2 : ByteArray → Option Nat} {w w' : World} (h : St w0 n X s k k (k + 1) R F1 F2 w) (hj : F1 (pp X k) = none)
    (hM : MapIs w' 2 (s + 1 + 1 + 1) (k + 1) litI (fun p => if p = pp X k then some k else F1 p)) (hg : w.grownBy w' (some (s + 1 + 1 + 1))) : St w0 n X s (k + 1) k (k + 1) R (fun p => if p = pp X k then some k else F1 p) F2 w' := by
  have hs := h.m2.lt
  exact ⟨h.u.kept hg (ne_some (by omega)) (ne_some (by omega)) (ne_some (by omega)), h.conn, h.dp.miss h.f1 hj, h.dq, hM, h.m2.kept hg (ne_some (by omega)), h.f1.miss, h.f2, h.bel.grown hg (by omega) (fun k hk => by cases hk; omega)⟩

theorem St.joinK {w0 : World} {n : Nat} {X : Nat → B1} {s k : Nat} {R : Nat → Nat} {F1 : Int → Option Nat} {F2 : ByteArray → Option Nat} {w w' : World} (h : St w0 n X s (k + 1) k (k + 1) R F1 F2 w) (hk : k < n) {j : Nat} (hj : F2 (kk X k) = some j)
    (hU : UInv w (s + 1 + 1) (s + 1) s n (k + 1) (joinR R (max (R k) (R j)) (min (R k) (R j))) w') : St w0 n X s (k + 1) (k + 1) (k + 1) (joinR R (max (R k) (R j)) (min (R k) (R j))) F1 F2 w' := by
  obtain ⟨rt, hR, hF⟩ := h.u.ex
  obtain ⟨j1, j2⟩ := h.f2.hits _ _ hj
  have hs := h.m2.lt
  have hJ := (hF.join (i := k) (j := j) (by omega) (by omega)).2
  have g := hU.only.grown
  exact ⟨⟨hU.f, hU.v, hU.ex, Only.refl _ _⟩, conn_join h.conn (by omega) (by omega) (Conn.of_adj (by omega) (by omega) (.inr j2.symm)), h.dp.finer (finer_joinR _ _ _), h.dq.hit h.f2 hj (finer_joinR _ _ _) hJ,
    h.m1.kept g (ne_some (by omega)), (h.m2.kept g (ne_some (by omega))).mono (Nat.le_succ _), h.f1, h.f2.hit hj, h.bel.trans (hU.only.below (Nat.le_refl _))⟩

theorem St.newK {w0 : World} {n : Nat} {X : Nat → B1} {s k : Nat} {R : Nat → Nat} {F1 : Int → Option Nat} {F2 : ByteArray → Option Nat} {w w' : World} (h : St w0 n X s (k + 1) k (k + 1) R F1 F2 w) (hj : F2 (kk X k) = none)
    (hM : MapIs w' 42 (s + 1 + 1 + 1 + 1) (k + 1) litS (fun p => if p = kk X k then some k else F2 p)) (hg : w.grownBy w' (some (s + 1 + 1 + 1 + 1))) : St w0 n X s (k + 1) (k + 1) (k + 1) R F1 (fun p => if p = kk X k then some k else F2 p) w' := by
  have hs := h.m2.lt
  exact ⟨h.u.kept hg (ne_some (by omega)) (ne_some (by omega)) (ne_some (by omega)), h.conn, h.dp, h.dq.miss h.f2 hj, h.m1.kept hg (ne_some (by omega)), hM, h.f1, h.f2.miss, h.bel.grown hg (by omega) (fun k hk => by cases hk; omega)⟩

theorem St.start (w : World) (n : Nat) (X : Nat → B1) : St w n X w.heap.size 0 0 0 id (fun _ => none) (fun _ => none) (((((w.alloc (.cells (madeCells #[.int .i64 0] n) 3)).alloc (.cells #[.slice (some ⟨w.heap.size, 0, none⟩) n n] 53)).alloc
    (.cells #[.func (.func 30) #[] #[.pointer (some ⟨w.heap.size + 1, 0, none⟩)]] 64)).alloc (.map #[] 0)).alloc (.map #[] 0)) := by
  obtain ⟨W1, hW1⟩ : ∃ W1, w.alloc (.cells (madeCells #[.int .i64 0] n) 3) = W1 := ⟨_, rfl⟩
  have s1 : W1.heap.size = w.heap.size + 1 := by rw [← hW1]; simp
  have r1 : IntRow W1 w.heap.size n (fun _ => 0) := by
    rw [← hW1]
    refine ⟨_, heap_alloc_new _ _, size_madeCells _ _, fun i hi => ?_⟩
    have := congrArg (·[i]?) (toList_madeCells_one (.int .i64 0) n)
    simpa [hi] using this
  have b1 : Below w.heap.size w W1 := by rw [← hW1]; exact (Below.refl _ _).alloc (Nat.le_refl _) _
  rw [hW1]
  obtain ⟨W2, hW2⟩ : ∃ W2, W1.alloc (.cells #[.slice (some ⟨w.heap.size, 0, none⟩) n n] 53) = W2 := ⟨_, rfl⟩
  have s2 : W2.heap.size = w.heap.size + 1 + 1 := by rw [← hW2]; simp [s1]
  have r2 : IntRow W2 w.heap.size n (fun _ => 0) := by rw [← hW2]; exact r1.kept (World.grownBy_alloc _ _ none) (fun e => by cases e)
  have c2 : W2.cell? ⟨w.heap.size + 1, 0, none⟩ = some (.slice (some ⟨w.heap.size, 0, none⟩) n n) := by rw [← hW2, ← s1]; simp
  have b2 : Below w.heap.size w W2 := by rw [← hW2]; exact b1.alloc (by omega) _
  rw [hW2]
  obtain ⟨W3, hW3⟩ : ∃ W3, W2.alloc (.cells #[.func (.func 30) #[] #[.pointer (some ⟨w.heap.size + 1, 0, none⟩)]] 64) = W3 := ⟨_, rfl⟩
  have s3 : W3.heap.size = w.heap.size + 1 + 1 + 1 := by rw [← hW3]; simp [s2]
  have r3 : IntRow W3 w.heap.size n (fun _ => 0) := by rw [← hW3]; exact r2.kept (World.grownBy_alloc _ _ none) (fun e => by cases e)
  have c3 : W3.cell? ⟨w.heap.size + 1, 0, none⟩ = some (.slice (some ⟨w.heap.size, 0, none⟩) n n) := by rw [← hW3]; exact cell_later1 c2 _
  have d3 : W3.cell? ⟨w.heap.size + 1 + 1, 0, none⟩ = some (.func (.func 30) #[] #[.pointer (some ⟨w.heap.size + 1, 0, none⟩)]) := by rw [← hW3, ← s2]; simp
  have b3 : Below w.heap.size w W3 := by rw [← hW3]; exact b2.alloc (by omega) _
  rw [hW3]
  have m1 := MapIs.made W3 2 litI
  rw [s3] at m1
  have m1' := m1.kept (World.grownBy_alloc (W3.alloc (.map #[] 0)) (.map #[] 0) none) (fun e => by cases e)
  have m2 := MapIs.made (W3.alloc (.map #[] 0)) 42 litS
  rw [show (W3.alloc (.map #[] 0)).heap.size = w.heap.size + 1 + 1 + 1 + 1 from by simp [s3]] at m2
  refine ⟨⟨cell_later1 (cell_later1 d3 _) _, cell_later1 (cell_later1 c3 _) _, ⟨fun _ => 0, ?_, ⟨fun j hj => by omega, fun j hj => by omega, fun j hj => by omega, fun j hj => by omega, fun j hj => by omega⟩⟩, Only.refl _ _⟩,
    fun j hj => by omega, fun a b ha => by omega, fun a b ha => by omega, m1', m2, Firsts.start _, Firsts.start _, (b3.alloc (by omega) _).alloc (by simp; omega) _⟩
  exact (r3.kept (World.grownBy_alloc _ _ none) (fun e => by cases e)).kept (World.grownBy_alloc _ _ none) (fun e => by cases e)

end Go.Proofs.Qxb6603043a
