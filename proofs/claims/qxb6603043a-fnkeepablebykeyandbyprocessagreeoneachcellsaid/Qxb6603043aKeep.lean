import Derived.Test.Qxb6603043aBuild
import Derived.Test.Qxb6603043aMaps
import Derived.Test.Qxb6603043aFilt
import Derived.Deep.RegionHeld3
import Derived.Deep.DrawnRows
import Derived.Deep.RegionLaw
import Derived.Laws.StructEq
namespace Go.Proofs.Qxb6603043a
open Go.RowKit Go.Maps
open UF

/-- Kept: it ended well, or it may have and is no read. -/
def keepB (x : B1) : Bool := x.o == 1 || (x.o == 3 && x.f != 1)

set_option maxHeartbeats 1000000 in
theorem keepable17 (x : B1) (w : World) :
    Calls Try.prog 17 #[.agg #[.int .i64 x.p, .string x.k, .int .u8 x.f, .int .u8 x.o, .int .i64 x.i, .int .i64 x.c, .int .i64 x.t]] w fun e w' => e = .returned (.bool (keepB x)) ∧ Below w.heap.size w w' := by
  have HB : Hid (keepB x = (x.o == 1 || (x.o == 3 && x.f != 1))) := rfl
  by_cases h1 : (x.o == 1) = true
  · go_enter Try.func17, Try.ntmps17
    go_wp2
    go_ret
    exact ⟨by rw [HB.out, h1]; rfl, (Below.refl _ _).alloc (Nat.le_refl _) _⟩
  · have h1' : (x.o == 1) = false := by simpa using h1
    by_cases h3 : (x.o == 3) = true
    · go_enter Try.func17, Try.ntmps17
      go_wp2
      go_ret
      exact ⟨by rw [HB.out, h1', h3]; simp, (Below.refl _ _).alloc (Nat.le_refl _) _⟩
    · have h3' : (x.o == 3) = false := by simpa using h3
      go_enter Try.func17, Try.ntmps17
      go_wp2
      go_ret
      exact ⟨by rw [HB.out, h1', h3']; simp, (Below.refl _ _).alloc (Nat.le_refl _) _⟩

set_option maxHeartbeats 1000000 in
theorem keepable28 (x : B1) (w : World) :
    Calls Try.prog 28 #[.agg #[.int .i64 x.p, .string x.k, .int .u8 x.f, .int .i64 0, .bool false, .int .i64 0, .bool false, .int .u8 x.o, .int .i64 x.i, .int .i64 x.c, .int .i64 x.t]] w fun e w' => e = .returned (.bool (keepB x)) ∧ Below w.heap.size w w' := by
  have HB : Hid (keepB x = (x.o == 1 || (x.o == 3 && x.f != 1))) := rfl
  by_cases h1 : (x.o == 1) = true
  · go_enter Try.func28, Try.ntmps28
    go_wp2
    go_ret
    exact ⟨by rw [HB.out, h1]; rfl, (Below.refl _ _).alloc (Nat.le_refl _) _⟩
  · have h1' : (x.o == 1) = false := by simpa using h1
    by_cases h3 : (x.o == 3) = true
    · go_enter Try.func28, Try.ntmps28
      go_wp2
      go_ret
      exact ⟨by rw [HB.out, h1', h3]; simp, (Below.refl _ _).alloc (Nat.le_refl _) _⟩
    · have h3' : (x.o == 3) = false := by simpa using h3
      go_enter Try.func28, Try.ntmps28
      go_wp2
      go_ret
      exact ⟨by rw [HB.out, h1', h3']; simp, (Below.refl _ _).alloc (Nat.le_refl _) _⟩

set_option maxHeartbeats 1000000 in
theorem sameOp_any (x : B1) (w : World) :
    Calls Try.prog 29 #[.agg #[.int .i64 x.p, .string x.k, .int .u8 x.f, .int .i64 0, .bool false, .int .i64 0, .bool false, .int .u8 x.o, .int .i64 x.i, .int .i64 x.c, .int .i64 x.t], .agg #[.int .i64 x.p, .string x.k, .int .u8 x.f, .int .u8 x.o, .int .i64 x.i, .int .i64 x.c, .int .i64 x.t]] w fun e w' => e = .returned (.bool true) ∧ Below w.heap.size w w' := by
  go_enter Try.func29, Try.ntmps29
  go_wp2
  go_ret
  exact ⟨rfl, ((Below.refl _ _).alloc (Nat.le_refl _) _).alloc (by simp) _⟩

theorem ret_bool {a b : Bool} (h : a = b) : Ending.returned (.bool a) = .returned (.bool b) := by rw [h]

/-- A slice of int64s by its list. -/
def I64s (w : World) (a : Option Addr) (L : List Int) : Prop :=
  0 < L.length → ∃ b off, b < w.heap.size ∧ a = some ⟨b, off, none⟩ ∧ ∀ j v, L[j]? = some v → w.cell? ⟨b, off + j, none⟩ = some (.int .i64 v)

theorem I64s.below {w w' : World} {a : Option Addr} {L : List Int} (h : I64s w a L) (hb : Below w.heap.size w w') : I64s w' a L := by
  intro hp
  obtain ⟨b, off, hlt, rfl, hc⟩ := h hp
  exact ⟨b, off, Nat.lt_of_lt_of_le hlt hb.size, rfl, fun j v hj => (hb.cell (p := ⟨b, off + j, none⟩) hlt).trans (hc j v hj)⟩

set_option maxHeartbeats 1000000 in
theorem hasProc_any (a : Option Addr) (L : List Int) (cap : Nat) (p : Int) (w : World) (hl : L.length ≤ 65536) (h : I64s w a L) :
    Calls Try.prog 18 #[.slice a L.length cap, .int .i64 p] w fun e w' => e = .returned (.bool (decide (p ∈ L))) ∧ w' = w := by
  go_enter Try.func18, Try.ntmps18
  go_wp2
  go_loop [5] (fun i => ∃ k : Nat, k ≤ L.length ∧ i = .int .i64 k ∧ Hid (∀ j v, j < k → L[j]? = some v → v ≠ p)) (fun i => L.length - (intOf i).toNat)
  case atStart => exact ⟨0, by omega, rfl, fun j v hj => by omega⟩
  case round =>
    obtain ⟨k, hk, rfl, HK⟩ := hrel
    by_cases hlt : k < L.length
    · obtain ⟨b, off, _, rfl, hc⟩ := h (by omega)
      have d1 := hc k L[k] (List.getElem?_eq_getElem hlt)
      obtain ⟨v, hv⟩ : ∃ v, v = L[k] := ⟨_, rfl⟩
      rw [← hv] at d1
      have HV : Hid (L[k]? = some v) := by rw [hv]; exact List.getElem?_eq_getElem hlt
      clear hc hv
      by_cases he : (v == p) = true
      · have HM : Hid (decide (p ∈ L) = true) := by
          have e : v = p := by simpa using he
          have := List.mem_of_getElem? HV.out
          rw [e] at this
          simp [Hid, this]
        go_wp2
        go_ret
        exact ⟨ret_bool HM.out.symm, rfl⟩
      · have he' : (v == p) = false := by simpa using he
        have hne : v ≠ p := by simpa using he
        have HN : Hid (∀ j u, j < k + 1 → L[j]? = some u → u ≠ p) := fun j u hj hu => by
          rcases Nat.lt_or_ge j k with h1 | h1
          · exact HK.out j u h1 hu
          · obtain rfl : j = k := by omega
            rw [HV.out] at hu
            cases hu
            exact hne
        clear hne he
        go_wp2
        go_round
        case rel => exact ⟨k + 1, by omega, by go_num, HN⟩
        case measure => simp [intOf]; omega
    · obtain rfl : k = L.length := by omega
      have HM : Hid (decide (p ∈ L) = false) := by
        have : p ∉ L := fun hm => by
          obtain ⟨j, hj⟩ := List.getElem?_of_mem hm
          exact HK.out j p (List.getElem?_eq_some_iff.1 hj).1 hj rfl
        simp [Hid, this]
      go_wp2
      go_ret
      exact ⟨ret_bool HM.out.symm, rfl⟩

/-- A slice of the history's operations that holds those of the indices 'L'. -/
def OpsV (w : World) (a : Option Addr) (L : List Nat) (X : Nat → B1) : Prop :=
  0 < L.length → ∃ b off, b < w.heap.size ∧ a = some ⟨b, off, none⟩ ∧ ∀ j i : Nat, L[j]? = some i → OpAt w b (off + j * 11) (X i)

theorem OpsV.below {w w' : World} {a : Option Addr} {L : List Nat} {X : Nat → B1} (h : OpsV w a L X) (hb : Below w.heap.size w w') : OpsV w' a L X := by
  intro hp
  obtain ⟨b, off, hlt, rfl, hc⟩ := h hp
  exact ⟨b, off, Nat.lt_of_lt_of_le hlt hb.size, rfl, fun j i hj => (hc j i hj).below hb hlt⟩

end Go.Proofs.Qxb6603043a
