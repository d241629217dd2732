/- The words that the walks of this seat share: what a slice of operations or of strings holds. -/
import Derived.Test.Qxb6603043aRows
import Derived.WalkKit
import Derived.WalkSpells
import Derived.WalkLawsBesides
import Derived.WalkSmall
namespace Go.Proofs.Qxb6603043a
open Go.RowKit

/-- One operation as the law is handed it. -/
structure B1 where
  p : Int
  k : ByteArray
  f : Int
  o : Int
  i : Int
  c : Int
  t : Int

/-- The seven cells of operation 'x' lie at block 'b' from offset 'o' on. -/
structure Seven (w : World) (b o : Nat) (x : B1) : Prop where
  c0 : w.cell? ⟨b, o, none⟩ = some (.int .i64 x.p)
  c1 : w.cell? ⟨b, o + 1, none⟩ = some (.string x.k)
  c2 : w.cell? ⟨b, o + 2, none⟩ = some (.int .u8 x.f)
  c3 : w.cell? ⟨b, o + 3, none⟩ = some (.int .u8 x.o)
  c4 : w.cell? ⟨b, o + 4, none⟩ = some (.int .i64 x.i)
  c5 : w.cell? ⟨b, o + 5, none⟩ = some (.int .i64 x.c)
  c6 : w.cell? ⟨b, o + 6, none⟩ = some (.int .i64 x.t)

theorem Seven.below {w w' : World} {B b o : Nat} {x : B1} (h : Seven w b o x) (hb : Below B w w') (hlt : b < B) : Seven w' b o x :=
  ⟨(hb.cell (p := ⟨b, o, none⟩) hlt).trans h.c0, (hb.cell (p := ⟨b, o + 1, none⟩) hlt).trans h.c1, (hb.cell (p := ⟨b, o + 2, none⟩) hlt).trans h.c2, (hb.cell (p := ⟨b, o + 3, none⟩) hlt).trans h.c3,
   (hb.cell (p := ⟨b, o + 4, none⟩) hlt).trans h.c4, (hb.cell (p := ⟨b, o + 5, none⟩) hlt).trans h.c5, (hb.cell (p := ⟨b, o + 6, none⟩) hlt).trans h.c6⟩

/-- The slice of operations at 'a', of length 'n', holds 'X 0', 'X 1' .. -/
def Ops (w : World) (a : Option Addr) (n : Nat) (X : Nat → B1) : Prop :=
  0 < n → ∃ b off, b < w.heap.size ∧ a = some ⟨b, off, none⟩ ∧ ∀ i, i < n → Seven w b (off + i * 7) (X i)

/-- The slice of strings at 'a', of length 'n', holds 'K 0', 'K 1' .. -/
def Strs (w : World) (a : Option Addr) (n : Nat) (K : Nat → ByteArray) : Prop :=
  0 < n → ∃ b off, b < w.heap.size ∧ a = some ⟨b, off, none⟩ ∧ ∀ i, i < n → w.cell? ⟨b, off + i, none⟩ = some (.string (K i))

/-- What the form says of the numbers and strings that were read. -/
structure Fit (n : Nat) (X : Nat → B1) : Prop where
  p : ∀ i, i < n → (Lit.int .i64 (X i).p).wf = true
  k : ∀ i, i < n → (X i).k.size ≤ maxLen

def FitK (n : Nat) (K : Nat → ByteArray) : Prop := ∀ i, i < n → (K i).size ≤ maxLen

theorem Ops.below {w w' : World} {a : Option Addr} {n : Nat} {X : Nat → B1} (h : Ops w a n X) (hb : Below w.heap.size w w') : Ops w' a n X := by
  intro hp
  obtain ⟨b, off, hlt, rfl, hc⟩ := h hp
  exact ⟨b, off, Nat.lt_of_lt_of_le hlt hb.size, rfl, fun i hi => (hc i hi).below hb hlt⟩

theorem Strs.below {w w' : World} {a : Option Addr} {n : Nat} {K : Nat → ByteArray} (h : Strs w a n K) (hb : Below w.heap.size w w') : Strs w' a n K := by
  intro hp
  obtain ⟨b, off, hlt, rfl, hc⟩ := h hp
  exact ⟨b, off, Nat.lt_of_lt_of_le hlt hb.size, rfl, fun i hi => (hb.cell (p := ⟨b, off + i, none⟩) hlt).trans (hc i hi)⟩

theorem Ops.nil_len {w : World} {n : Nat} {X : Nat → B1} (h : Ops w none n X) : n = 0 := by
  rcases Nat.eq_zero_or_pos n with h0 | hp
  · exact h0
  · obtain ⟨b, off, _, e, _⟩ := h hp
    cases e

theorem Strs.nil_len {w : World} {n : Nat} {K : Nat → ByteArray} (h : Strs w none n K) : n = 0 := by
  rcases Nat.eq_zero_or_pos n with h0 | hp
  · exact h0
  · obtain ⟨b, off, _, e, _⟩ := h hp
    cases e

/-- The call hands back a bool. -/
def IsBool (e : Ending) : Prop := ∃ r : Bool, e = .returned (.bool r)

theorem maxLen_is : maxLen = 9223372036854775807 := by unfold maxLen; rfl

end Go.Proofs.Qxb6603043a
