import Derived.Test.Qxb6603043aKeep
import Derived.Test.Qxb6603043aKeyP
import Derived.Test.Qxb6603043aSep
import Derived.Deep.QuietTactic
import Derived.BigQuiet
namespace Go.Proofs.Qxb6603043a
open Go.RowKit Go.Maps
open UF

theorem run_makeMap58 (v : Int) (w : World) : (Instr.makeMap 58 (some (.int .i64 v))).run Try.prog w = .ok (.map (some w.heap.size)) (w.alloc (.map #[] 0)) := by
  simp [Instr.makeMap, run_underlying Try.underlying58, asInt, asIntOf, newObj]
  rfl

set_option maxRecDepth 100000 in
set_option maxHeartbeats 2000000 in
theorem keyIndex_any (hb n m : Nat) (X : Nat → B1) (K : Nat → ByteArray) (w : World) (hm : m ≤ 65536) (hK : FitK m K) (hH : Hist w hb n m X K) :
    Calls Try.prog 27 #[.pointer (some ⟨hb, 0, none⟩)] w fun e w' => ∃ (mb : Nat) (F : ByteArray → Option Nat), e = .returned (.map (some mb)) ∧ w.heap.size ≤ mb ∧ MapIs w' 42 mb m litS F ∧ Lasts m K F ∧ Below w.heap.size w w' := by
  obtain ⟨ao, co, pr, ak, ck, hrow, hO, hS⟩ := hH.row
  have c2 : w.cell? ⟨hb, 2, none⟩ = some (.slice ak m ck) := by rw [cell_of_row w hb 2 _ 57 (0, 0) hrow]; rfl
  have c2' := cell_later1 c2
  have hmm := run_makeMap58
  have hlt := hH.lt
  clear hrow hO
  go_enter Try.func27, Try.ntmps27
  go_wp2_with fail
  clear c2' hmm
  go_loopw [17] (fun i wr => ∃ (k : Nat) (F : ByteArray → Option Nat), k ≤ m ∧ i = .int .i64 k ∧ MapIs wr 42 w.heap.size k litS F ∧ Lasts k K F ∧ Below w.heap.size w wr) (fun i _ => m - (intOf i).toNat)
  case atStart => exact ⟨0, _, by omega, rfl, MapIs.made _ _ _, Lasts.start K, (Below.refl _ _).alloc (Nat.le_refl _) _⟩
  case round =>
    obtain ⟨k, F, hk, rfl, hM, hL, hbel⟩ := hrel
    by_cases hkm : k < m
    · obtain ⟨b, off, hbl, rfl, hc⟩ := (hS.below hbel) (by omega)
      have d1 := hc k hkm
      have fk := hK k hkm
      have hL' := hL.step
      obtain ⟨s, hs⟩ : ∃ s, s = K k := ⟨_, rfl⟩
      rw [← hs] at d1 fk hL'
      have hml := hM.lt
      clear hc hs hL
      go_wp2_with (at_mapUpdate; refine wpList_put rfl _ _ _ 58 rfl law42 Try.underlying58 (fun _ _ => litS_inj) rfl hM (by omega) _ s rfl (WideMaps.keyOf_string_mk Try.underlying42 fk) trivial k (by omega) rfl ?_; intro w3 hM3 hg3)
      have hb3 := hbel.grown hg3 (by omega) (fun b hb => by cases hb; omega)
      go_roundw
      case rel => first | exact ⟨k + 1, _, by omega, by go_num, hM3, hL', hb3⟩ | (repeat apply Exists.intro; exact ⟨⟨k + 1, _, by omega, by go_num, hM3, hL', hb3⟩, rfl⟩)
      case measure => simp [intOf]; omega
    · obtain rfl : k = m := by omega
      go_wp2_with fail
      go_ret
      exact ⟨w.heap.size, F, rfl, Nat.le_refl _, hM, hL, hbel⟩

/-- A bool, and what it says if it is true; what if it is false. -/
def Says (e : Ending) (p q : Prop) : Prop := ∃ r : Bool, e = .returned (.bool r) ∧ (r = true → p) ∧ (r = false → q)

theorem strq_ne {a b : ByteArray} (h : ¬ a = b) : (a.toList == b.toList) = false := by
  rw [beq_eq_false_iff_ne, ByteArray.toList_eq, ByteArray.toList_eq]
  exact fun e => h (WideShapes.bytes_inj e)

set_option maxHeartbeats 2000000 in
theorem keyLater_any (a : Option Addr) (m cap k : Nat) (K : Nat → ByteArray) (w : World) (hm : m ≤ 65536) (hk : k < m) (hS : Strs w a m K) :
    Calls Try.prog 13 #[.slice a m cap, .int .i64 k] w fun e w' => Says e (∃ l, k < l ∧ l < m ∧ K l = K k) (∀ l, k < l → l < m → K l ≠ K k) ∧ Below w.heap.size w w' := by
  obtain ⟨b, off, hbl, rfl, hc⟩ := hS (by omega)
  go_enter Try.func13, Try.ntmps13
  go_wp2
  go_loopw [5] (fun i wr => ∃ j : Nat, j ≤ m ∧ k < j ∧ i = .int .i64 j ∧ Hid (∀ l, k < l → l < j → K l ≠ K k) ∧ Below w.heap.size w wr) (fun i _ => m - (intOf i).toNat)
  case atStart => exact ⟨k + 1, by omega, by omega, by go_num, fun l h1 h2 => by omega, Below.refl _ _⟩
  case round =>
    obtain ⟨j, hj, hkj, rfl, HL, hbel⟩ := hrel
    by_cases hjm : j < m
    · have d1 : wr.cell? ⟨b, off + j, none⟩ = some (.string (K j)) := (hbel.cell (p := ⟨b, off + j, none⟩) hbl).trans (hc j hjm)
      have d2 : wr.cell? ⟨b, off + k, none⟩ = some (.string (K k)) := (hbel.cell (p := ⟨b, off + k, none⟩) hbl).trans (hc k hk)
      have i1 : (0 : Int) ≤ (j : Int) := by omega
      have i2 : (j : Int) < (m : Int) := by omega
      have i3 : (0 : Int) ≤ (k : Int) := by omega
      have i4 : (k : Int) < (m : Int) := by omega
      by_cases he : K j = K k
      · have HE : Hid (K j = K k) := he
        have hb1 : ((K j).toList == (K k).toList) = true := by rw [he]; simp
        clear he hc
        go_wp2
        go_quiet (fail)
        go_wp2
        go_ret
        exact ⟨⟨true, rfl, fun _ => ⟨j, hkj, hjm, HE.out⟩, fun h => (by cases h)⟩, below_drewN hbel _⟩
      · have hb1 := strq_ne he
        have HL' : Hid (∀ l, k < l → l < j + 1 → K l ≠ K k) := fun l h1 h2 => by
          rcases Nat.lt_or_ge l j with h3 | h3
          · exact HL.out l h1 h3
          · obtain rfl : l = j := by omega
            exact he
        clear he hc
        go_wp2
        go_quiet (fail)
        go_wp2
        go_roundw
        case rel => exact ⟨j + 1, by omega, by omega, by go_num, HL', below_drewN hbel _⟩
        case measure => simp [intOf]; omega
    · obtain rfl : j = m := by omega
      go_wp2
      go_ret
      exact ⟨⟨false, rfl, fun h => (by cases h), fun _ => HL.out⟩, hbel⟩

set_option maxRecDepth 100000 in
set_option maxHeartbeats 4000000 in
theorem cover_any (a1 : Option Addr) (n cap1 : Nat) (X : Nat → B1) (a2 : Option Addr) (m cap2 : Nat) (K : Nat → ByteArray) (w : World) (hn : n ≤ 65536) (hm : m ≤ 65536) (hO : Ops w a1 n X) (hS : Strs w a2 m K) :
    Calls Try.prog 10 #[.slice a1 n cap1, .slice a2 m cap2] w fun e w' => Says e (∀ i, i < n → keepB (X i) = true → ∃ j, j < m ∧ K j = (X i).k) True ∧ Below w.heap.size w w' := by
  go_enter Try.func10, Try.ntmps10
  go_wp2
  go_loopw [5] (fun i wr => ∃ q : Nat, q ≤ n ∧ i = .int .i64 q ∧ Hid (∀ i, i < q → keepB (X i) = true → ∃ j, j < m ∧ K j = (X i).k) ∧ Below w.heap.size w wr) (fun i _ => n - (intOf i).toNat)
  case atStart => exact ⟨0, by omega, rfl, fun i hi => by omega, Below.refl _ _⟩
  case round =>
    obtain ⟨q, hq, rfl, HC, hbel⟩ := hrel
    by_cases hqn : q < n
    · obtain ⟨bo, oo, hbo, rfl, hc⟩ := (hO.below hbel) (by omega)
      have S0 := hc q hqn
      obtain ⟨x, hx⟩ : ∃ x, X q = x := ⟨_, rfl⟩
      have HX : Hid (X q = x) := hx
      rw [hx] at S0
      obtain ⟨s0, s1, s2, s3, s4, s5, s6⟩ := S0
      have S0 : Seven wr bo (oo + q * 7) x := ⟨s0, s1, s2, s3, s4, s5, s6⟩
      clear hc hx
      go_wp2_with fail
      refine (keepable17 x wr).mono ?_
      rintro e w1 ⟨rfl, hb1⟩
      have S1 := S0.below hb1 hbo
      have hbel1 := hbel.trans (hb1.mono hbel.size)
      have hbo1 := Nat.lt_of_lt_of_le hbo hb1.size
      clear s0 s1 s2 s3 s4 s5 s6 S0
      cases hkb : keepB x with
      | false =>
        have HC' : Hid (∀ i, i < q + 1 → keepB (X i) = true → ∃ j, j < m ∧ K j = (X i).k) := fun i hi h => by
          rcases Nat.lt_or_ge i q with h1 | h1
          · exact HC.out i h1 h
          · obtain rfl : i = q := by omega
            rw [HX.out, hkb] at h
            cases h
        clear hkb
        go_wp2
        go_roundw
        case rel => exact ⟨q + 1, by omega, by go_num, HC', hbel1⟩
        case measure => simp [intOf]; omega
      | true =>
        clear hkb
        go_wp2
        go_loopw [6, 7] (fun f i wr => ∃ j : Nat, j ≤ m ∧ f = .bool false ∧ i = .int .i64 j ∧ Below w1.heap.size w1 wr) (fun _ i _ => m - (intOf i).toNat)
        case atStart => exact ⟨0, by omega, rfl, rfl, Below.refl _ _⟩
        case round =>
          obtain ⟨j, hj, rfl, rfl, hbel2⟩ := hrel
          have hbel3 := hbel1.trans (hbel2.mono hbel1.size)
          by_cases hjm : j < m
          · obtain ⟨b, off, hbl, rfl, hc⟩ := (hS.below hbel3) (by omega)
            have d1 := hc j hjm
            have d2 := (S1.below hbel2 hbo1).c1
            have i1 : (0 : Int) ≤ (j : Int) := by omega
            have i2 : (j : Int) < (m : Int) := by omega
            have i3 : (0 : Int) ≤ (q : Int) := by omega
            have i4 : (q : Int) < (n : Int) := by omega
            by_cases he : K j = x.k
            · have HE : Hid (K j = x.k) := he
              have hb1' : ((K j).toList == x.k.toList) = true := by rw [he]; simp
              have HC' : Hid (∀ i, i < q + 1 → keepB (X i) = true → ∃ j, j < m ∧ K j = (X i).k) := fun i hi h => by
                rcases Nat.lt_or_ge i q with h1 | h1
                · exact HC.out i h1 h
                · obtain rfl : i = q := by omega
                  exact ⟨j, hjm, by rw [HX.out]; exact HE.out⟩
              clear he hc
              go_wp2
              go_quiet (fail)
              go_wp2
              go_roundw
              case rel => first | exact ⟨q + 1, by omega, by go_num, HC', below_drewN hbel3 _⟩ | (repeat apply Exists.intro; exact ⟨⟨q + 1, by omega, by go_num, HC', below_drewN hbel3 _⟩, rfl⟩)
              case measure => simp [intOf]; omega
            · have hb1' := strq_ne he
              clear he hc
              go_wp2
              go_quiet (fail)
              go_wp2
              go_roundw
              case rel => exact ⟨j + 1, by omega, rfl, by go_num, below_drewN hbel2 _⟩
              case measure => simp [intOf]; omega
          · go_wp2
            go_ret
            exact ⟨⟨false, rfl, fun h => (by cases h), fun _ => trivial⟩, hbel3⟩
    · obtain rfl : q = n := by omega
      go_wp2
      go_ret
      exact ⟨⟨true, rfl, fun _ => HC.out, fun _ => trivial⟩, hbel⟩

end Go.Proofs.Qxb6603043a
