/- Maps that the call makes, read as plain functions; and groups: a slice of slices, each in a row of its own. -/
import Derived.Test.Qxb6603043aFind
import Derived.Maps.Own
import Derived.Maps.OwnOps
import Derived.Maps.OwnSet
import Derived.Maps.Views
import Derived.Maps.AppendAt
import Derived.Deep.AppendLies
import Derived.StringKeys
namespace Go.Proofs.Qxb6603043a
open Go.RowKit Go.Maps
open UF

/-- The map at block 'b', of at most 'n' entries, holds just what 'F' says; 'lit': how a key reads. -/
def MapIs {α : Type} (w : World) (KT : TypeId) (b n : Nat) (lit : α → Lit) (F : α → Option Nat) : Prop :=
  ∃ D : DataW Unit, w.ownsMap Try.prog KT (plainElem Try.prog 3) b n D ∧ ∀ q, Maps.has D (lit q) = (F q).isSome ∧ ∀ j, F q = some j → ∀ z, D.atKey (lit q) z = .lit (.int .i64 (j : Int))

def litI (p : Int) : Lit := .int .i64 p
def litS (s : ByteArray) : Lit := .string s.data.toList

theorem litI_inj {p q : Int} (h : litI p = litI q) : p = q := by simpa [litI] using h
theorem litS_inj {s t : ByteArray} (h : litS s = litS t) : s = t := by
  have h' : s.data.toList = t.data.toList := by simpa [litS] using h
  cases s; cases t
  simp at h'
  subst h'
  rfl

theorem zero3 (w : World) : (zeroValue 3).run Try.prog w = .ok (.int .i64 0) w := by kernel_rfl
theorem law2 : Keyed Try.prog 2 := int_keyed Try.underlying2
theorem law42 : Keyed Try.prog 42 := string_keyed Try.underlying42

theorem MapIs.made {α : Type} (w : World) (KT : TypeId) (lit : α → Lit) : MapIs (w.alloc (.map #[] 0)) KT w.heap.size 0 lit (fun _ : α => none) :=
  ⟨.map [], World.ownsMap_made w Try.prog KT _, fun q => ⟨rfl, fun _ h => by cases h⟩⟩

theorem MapIs.lt {α : Type} {w : World} {KT : TypeId} {b n : Nat} {lit : α → Lit} {F : α → Option Nat} (h : MapIs w KT b n lit F) : b < w.heap.size := by
  obtain ⟨D, h1, _⟩ := h
  exact h1.lt

theorem MapIs.mono {α : Type} {w : World} {KT : TypeId} {b n n' : Nat} {lit : α → Lit} {F : α → Option Nat} (h : MapIs w KT b n lit F) (hn : n ≤ n') : MapIs w KT b n' lit F := by
  obtain ⟨D, h1, h2⟩ := h
  exact ⟨D, h1.mono hn, h2⟩

theorem MapIs.kept {α : Type} {w w' : World} {KT : TypeId} {b n : Nat} {lit : α → Lit} {F : α → Option Nat} {row : Option Nat} (h : MapIs w KT b n lit F) (hg : w.grownBy w' row) (hne : some b ≠ row) : MapIs w' KT b n lit F := by
  obtain ⟨D, h1, h2⟩ := h
  exact ⟨D, h1.kept hg hne, h2⟩

section
variable {w : World} {ops : Array Oper} {rest : List Oper} {o : Oper} {a : Act} {Q : Exit → Act → World → Prop} {α : Type} {KT : TypeId} {b n : Nat} {lit : α → Lit} {F : α → Option Nat}

/-- 'v, ok := m[k]'. -/
theorem wpList_look (hg : o.guard = none) (m x : Operand) (t : TypeId) (hop : o.op = Op.lookup t m x true) (K : Keyed Try.prog KT) (ht : Try.prog.underlying t = some (.map KT 3))
    (hm : a.eval m = .map (some b)) (h : MapIs w KT b n lit F) (key : Value) (q : α) (hx : a.eval x = key) (hkey : keyOf Try.prog KT key = some (lit q))
    (hK : ∀ c : Int, (∀ j, F q = some j → c = (j : Int)) → wpList Try.prog ops Q rest (a.put o.dst (.tuple #[.int .i64 c, .bool (F q).isSome])) w) : wpList Try.prog ops Q (o :: rest) a w := by
  obtain ⟨D, h1, h2⟩ := h
  refine wpList_lookup_own_ok_int w hg m x t hop KT 3 .i64 K ht Try.underlying3 (zero3 w) b n D hm h1 key (lit q) hx hkey (fun c hat _ => ?_)
  rw [(h2 q).1]
  refine hK c (fun j hj => ?_)
  have := (h2 q).2 j hj (.lit (.int .i64 0))
  rw [hat] at this
  simpa using this

/-- 'm[k]', the key there. -/
theorem wpList_look1 (hg : o.guard = none) (m x : Operand) (t : TypeId) (hop : o.op = Op.lookup t m x false) (K : Keyed Try.prog KT) (ht : Try.prog.underlying t = some (.map KT 3))
    (hm : a.eval m = .map (some b)) (h : MapIs w KT b n lit F) (key : Value) (q : α) (hx : a.eval x = key) (hkey : keyOf Try.prog KT key = some (lit q)) (j : Nat) (hj : F q = some j)
    (hK : wpList Try.prog ops Q rest (a.put o.dst (.int .i64 (j : Int))) w) : wpList Try.prog ops Q (o :: rest) a w := by
  obtain ⟨D, h1, h2⟩ := h
  refine wpList_lookup_own_int w hg m x t hop KT 3 .i64 K ht Try.underlying3 (zero3 w) b n D hm h1 key (lit q) hx hkey (fun c hat _ => ?_)
  have := (h2 q).2 j hj (.lit (.int .i64 0))
  rw [hat] at this
  have e : c = (j : Int) := by simpa using this
  rw [e]
  exact hK

theorem MapIs.put [DecidableEq α] {w' : World} {D : DataW Unit} {q : α} {j : Nat} (inj : ∀ p q : α, lit p = lit q → p = q) (hk : WideAt.IsKeyLit (lit q)) (hD : IsMap D) (h2 : ∀ q, Maps.has D (lit q) = (F q).isSome ∧ ∀ j, F q = some j → ∀ z, D.atKey (lit q) z = .lit (.int .i64 (j : Int)))
    (h : w'.ownsMap Try.prog KT (plainElem Try.prog 3) b n (D.put (lit q) (.lit (.int .i64 (j : Int))))) : MapIs w' KT b n lit (fun p => if p = q then some j else F p) := by
  refine ⟨_, h, fun p => ?_⟩
  by_cases e : p = q
  · subst e
    refine ⟨by rw [Maps.has_put_same hD hk]; simp, fun i hi z => ?_⟩
    simp at hi
    subst hi
    rw [Maps.atKey_put_same hD hk]
  · have hne : lit p ≠ lit q := fun e2 => e (inj _ _ e2)
    refine ⟨by rw [Maps.has_put_other hne, (h2 p).1]; simp [e], fun i hi z => ?_⟩
    simp [e] at hi
    rw [Maps.atKey_put_other hne]
    exact (h2 p).2 i hi z

/-- 'm[k] = j'. -/
theorem wpList_put [DecidableEq α] (hg : o.guard = none) (m x v : Operand) (t : TypeId) (hop : o.op = Op.mapUpdate t m x v) (K : Keyed Try.prog KT) (ht : Try.prog.underlying t = some (.map KT 3))
    (inj : ∀ p q : α, lit p = lit q → p = q) (hm : a.eval m = .map (some b)) (h : MapIs w KT b n lit F) (hn : n ≤ 65536) (key : Value) (q : α) (hx : a.eval x = key) (hkey : keyOf Try.prog KT key = some (lit q)) (hkl : WideAt.IsKeyLit (lit q))
    (j : Nat) (hj : j ≤ 65536) (hv : a.eval v = .int .i64 (j : Int))
    (hK : ∀ w', MapIs w' KT b (n + 1) lit (fun p => if p = q then some j else F p) → w.grownBy w' (some b) → wpList Try.prog ops Q rest (a.put o.dst undef) w') : wpList Try.prog ops Q (o :: rest) a w := by
  obtain ⟨D, h1, h2⟩ := h
  refine wpList_mapUpdate_own w hg m x v t hop KT 3 K ht (plainElem Try.prog 3) b n D hm h1 (by rw [maxLen_is]; omega) key (.int .i64 (j : Int)) (lit q) hx hv hkey (.lit (.int .i64 (j : Int))) [] (plainElem_int Try.underlying3 (WalkArith.wf_i64 (by omega))) (fun w' h1' hg' => ?_)
  exact hK w' (MapIs.put inj hkl h1.isMap h2 h1') hg'

end

/-! ### Groups -/
theorem map_range_set {α : Type} (f : Nat → α) (n p : Nat) (v : α) : ((List.range n).map f).set p v = (List.range n).map (upd f p v) := by
  apply List.ext_getElem?
  intro i
  by_cases hi : i < n
  · by_cases e : i = p
    · subst e
      simp [hi, upd_same]
    · rw [List.getElem?_set_ne (fun e2 => e e2.symm)]
      simp [hi, upd_other _ _ e]
  · simp [hi]

theorem map_range_push {α : Type} (f : Nat → α) (n : Nat) (v : α) : (List.range n).map f ++ [v] = (List.range (n + 1)).map (upd f n v) := by
  rw [List.range_succ, List.map_append]
  congr 1
  · refine List.map_congr_left (fun i hi => ?_)
    rw [upd_other _ _ (by simp at hi; omega)]
  · simp [upd_same]

/-- A slice 'pv' of 'cnt' slices 'sp 0' ..: each lies in a row of its own (blocks from 'base' on) and holds the cells 'G p', 'ln p' elements of 'sz' cells each. -/
structure Groups (w : World) (base ES E sz : Nat) (pv : Value) (cnt : Nat) (sp : Nat → Value) (ln : Nat → Nat) (G : Nat → List Value) : Prop where
  row : w.ownsRow base ES 1 pv cnt ((List.range cnt).map sp)
  each : ∀ p, p < cnt → w.ownsRow base E sz (sp p) (ln p) (G p)
  apart : ∀ p q, p < cnt → q < cnt → p ≠ q → ∀ g, (sp p).ownBlock = some g → (sp q).ownBlock ≠ some g
  out : ∀ p, p < cnt → ∀ g, (sp p).ownBlock = some g → pv.ownBlock ≠ some g

theorem Groups.start (w : World) (base ES E sz : Nat) (sp : Nat → Value) (ln : Nat → Nat) (G : Nat → List Value) : Groups w base ES E sz (.slice none 0 0) 0 sp ln G :=
  ⟨World.ownsRow_nil _ _ _ _, fun p hp => by omega, fun p _ hp => by omega, fun p hp => by omega⟩

theorem Groups.kept {w w' : World} {base ES E sz : Nat} {pv : Value} {cnt : Nat} {sp : Nat → Value} {ln : Nat → Nat} {G : Nat → List Value} {row : Option Nat} (h : Groups w base ES E sz pv cnt sp ln G) (hg : w.grownBy w' row) (hr : ∀ k, row = some k → k < base) : Groups w' base ES E sz pv cnt sp ln G := by
  have far : ∀ {v : Value} {e s n : Nat} {xs : List Value}, w.ownsRow base e s v n xs → v.ownBlock = none ∨ v.ownBlock ≠ row := fun {v e s n xs} ho => by
    cases hb : v.ownBlock with
    | none => exact .inl rfl
    | some k =>
      refine .inr (fun e2 => ?_)
      have h1 := hr k e2.symm
      have h2 := (ho.lt k hb).1
      omega
  exact ⟨h.row.kept hg (far h.row), fun p hp => (h.each p hp).kept hg (far (h.each p hp)), h.apart, h.out⟩

theorem Groups.drew {w : World} {base ES E sz : Nat} {pv : Value} {cnt : Nat} {sp : Nat → Value} {ln : Nat → Nat} {G : Nat → List Value} (h : Groups w base ES E sz pv cnt sp ln G) : Groups w.drew base ES E sz pv cnt sp ln G := ⟨h.row, h.each, h.apart, h.out⟩

/-- 'parts = append(parts, nil)'. -/
theorem Groups.push {w W w1 : World} {base ES E sz : Nat} {pv : Value} {cnt : Nat} {sp : Nat → Value} {ln : Nat → Nat} {G : Nat → List Value} (h : Groups w base ES E sz pv cnt sp ln G) (hW : w.grownBy W none) {g cap : Nat}
    (hown : w1.ownsRow base ES 1 (.slice (some ⟨g, 0, none⟩) (cnt + 1) cap) (cnt + 1) ((List.range cnt).map sp ++ [.slice none 0 0])) (hgrow : W.grownBy w1 pv.ownBlock) (hat : pv.ownBlock = some g ∨ g = W.heap.size) :
    Groups w1 base ES E sz (.slice (some ⟨g, 0, none⟩) (cnt + 1) cap) (cnt + 1) (upd sp cnt (.slice none 0 0)) (upd ln cnt 0) (upd G cnt []) := by
  have hW' := hW.size
  refine ⟨by rw [← map_range_push]; exact hown, fun p hp => ?_, fun p q hp hq hne k hk => ?_, fun p hp k hk => ?_⟩
  · by_cases e : p = cnt
    · subst e
      rw [upd_same, upd_same, upd_same]
      exact World.ownsRow_nil _ _ _ _
    · rw [upd_other _ _ e, upd_other _ _ e, upd_other _ _ e]
      have h1 := (h.each p (by omega)).kept hW (by cases (sp p).ownBlock <;> simp)
      refine h1.kept hgrow ?_
      cases hb : (sp p).ownBlock with
      | none => exact .inl rfl
      | some k => exact .inr (fun e2 => h.out p (by omega) k hb e2.symm)
  · by_cases e : p = cnt
    · rw [e, upd_same] at hk
      simp [Value.ownBlock] at hk
    · rw [upd_other _ _ e] at hk
      by_cases e2 : q = cnt
      · rw [e2, upd_same]
        simp [Value.ownBlock]
      · rw [upd_other _ _ e2]
        exact h.apart p q (by omega) (by omega) hne k hk
  · by_cases e : p = cnt
    · rw [e, upd_same] at hk
      simp [Value.ownBlock] at hk
    · rw [upd_other _ _ e] at hk
      have hlt := ((h.each p (by omega)).lt k hk).2
      intro e2
      have e3 : g = k := by simpa [Value.ownBlock] using e2
      rcases hat with hat | hat
      · exact h.out p (by omega) k hk (by rw [hat, e3])
      · omega

/-- 'parts[p] = append(parts[p], ..)': one element. -/
theorem Groups.app {w W w1 : World} {base ES E sz pg pcap : Nat} {cnt : Nat} {sp : Nat → Value} {ln : Nat → Nat} {G : Nat → List Value} (h : Groups w base ES E sz (.slice (some ⟨pg, 0, none⟩) cnt pcap) cnt sp ln G) (hW : w.grownBy W none) {p : Nat} (hp : p < cnt) {g cap : Nat} {news : List Value}
    (hown : w1.ownsRow base E sz (.slice (some ⟨g, 0, none⟩) (ln p + 1) cap) (ln p + 1) (G p ++ news)) (hgrow : W.grownBy w1 (sp p).ownBlock) (hat : (sp p).ownBlock = some g ∨ g = W.heap.size) :
    Groups (w1.setCell ⟨pg, p, none⟩ (.slice (some ⟨g, 0, none⟩) (ln p + 1) cap)) base ES E sz (.slice (some ⟨pg, 0, none⟩) cnt pcap) cnt (upd sp p (.slice (some ⟨g, 0, none⟩) (ln p + 1) cap)) (upd ln p (ln p + 1)) (upd G p (G p ++ news)) := by
  have hW' := hW.size
  have hpg : (sp p).ownBlock ≠ some pg := fun e => h.out p hp pg e rfl
  have hpg2 := (h.row.lt pg rfl).2
  have r1 := (h.row.kept hW (by simp [Value.ownBlock])).kept hgrow (.inr (fun e => hpg e.symm))
  have r2 := r1.stored p (.slice (some ⟨g, 0, none⟩) (ln p + 1) cap)
  have hgp : g ≠ pg := by
    rcases hat with hat | hat
    · exact fun e => hpg (by rw [hat, e])
    · omega
  refine ⟨by rw [← map_range_set]; exact r2.1, fun q hq => ?_, fun q r hq hr hne k hk => ?_, fun q hq k hk => ?_⟩
  · by_cases e : q = p
    · subst e
      rw [upd_same, upd_same, upd_same]
      exact hown.kept r2.2 (.inr (by simp [Value.ownBlock]; exact hgp))
    · rw [upd_other _ _ e, upd_other _ _ e, upd_other _ _ e]
      have h1 := (h.each q hq).kept hW (by cases (sp q).ownBlock <;> simp)
      have h2 := h1.kept hgrow (by
        cases hb : (sp q).ownBlock with
        | none => exact .inl rfl
        | some k => exact .inr (fun e2 => h.apart q p hq hp e k hb e2.symm))
      refine h2.kept r2.2 ?_
      cases hb : (sp q).ownBlock with
      | none => exact .inl rfl
      | some k => exact .inr (fun e2 => h.out q hq k hb e2.symm)
  · by_cases e : q = p
    · rw [e, upd_same] at hk
      have e3 : g = k := by simpa [Value.ownBlock] using hk
      have e4 : r ≠ p := fun e4 => hne (by rw [e, e4])
      rw [upd_other _ _ e4]
      intro e5
      rcases hat with hat | hat
      · exact h.apart p r hp hr (fun e6 => e4 e6.symm) g hat (by rw [e5, e3])
      · have := ((h.each r hr).lt k e5).2
        omega
    · rw [upd_other _ _ e] at hk
      by_cases e2 : r = p
      · rw [e2, upd_same]
        intro e5
        have e3 : g = k := by simpa [Value.ownBlock] using e5
        rcases hat with hat | hat
        · exact h.apart q p hq hp e k hk (by rw [hat, e3])
        · have := ((h.each q hq).lt k hk).2
          omega
      · rw [upd_other _ _ e2]
        exact h.apart q r hq hr hne k hk
  · by_cases e : q = p
    · rw [e, upd_same] at hk
      have e3 : g = k := by simpa [Value.ownBlock] using hk
      intro e5
      have e6 : pg = k := by simpa [Value.ownBlock] using e5
      omega
    · rw [upd_other _ _ e] at hk
      exact h.out q hq k hk

end Go.Proofs.Qxb6603043a
