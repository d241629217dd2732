import Derived.Test.Qxb6603043aCellP
import Derived.Test.Qxb6603043aKeyW
import Derived.Deep.QuietTactic
import Derived.BigQuiet
namespace Go.Proofs.Qxb6603043a
open Go.RowKit Go.Maps
open UF

attribute [local go_sem ↓] Go.wp_at_zero Go.wp_at_succ

set_option maxHeartbeats 2000000 in
theorem distinct_any (a : Option Addr) (m cap : Nat) (K : Nat → ByteArray) (w : World) (hm : m ≤ 65536) (hS : Strs w a m K) :
    Calls Try.prog 21 #[.slice a m cap] w fun e w' => Says e (∀ i j, i < j → j < m → K i ≠ K j) True ∧ Below w.heap.size w w' := by
  go_enter Try.func21, Try.ntmps21
  go_wp2
  go_loopw [3] (fun i wr => ∃ k : Nat, k ≤ m ∧ i = .int .i64 k ∧ Hid (∀ i j, i < k → i < j → j < m → K i ≠ K j) ∧ Below w.heap.size w wr) (fun i _ => m - (intOf i).toNat)
  case atStart => exact ⟨0, by omega, rfl, fun i j h => by omega, Below.refl _ _⟩
  case round =>
    obtain ⟨k, hk, rfl, HD, hbel⟩ := hrel
    by_cases hkm : k < m
    · obtain ⟨w1, rfl⟩ : ∃ w1, w1 = wr := ⟨_, rfl⟩
      go_wp2
      go_loopw [4] (fun i wr => ∃ j : Nat, j ≤ m ∧ k < j ∧ i = .int .i64 j ∧ Hid (∀ l, k < l → l < j → K k ≠ K l) ∧ Below w.heap.size w wr) (fun i _ => m - (intOf i).toNat)
      case atStart => exact ⟨k + 1, by omega, by omega, by go_num, fun l h1 h2 => by omega, hbel⟩
      case round =>
        obtain ⟨j, hj, hkj, rfl, HL, hbel2⟩ := hrel
        by_cases hjm : j < m
        · obtain ⟨b, off, hbl, rfl, hc⟩ := (hS.below hbel2) (by omega)
          have d1 := hc j hjm
          have d2 := hc k hkm
          have i1 : (0 : Int) ≤ (j : Int) := by omega
          have i2 : (j : Int) < (m : Int) := by omega
          have i3 : (0 : Int) ≤ (k : Int) := by omega
          have i4 : (k : Int) < (m : Int) := by omega
          by_cases he : K k = K j
          · have hb1 : ((K k).toList == (K j).toList) = true := by rw [he]; simp
            clear he hc
            go_wp2
            go_quiet (fail)
            go_wp2
            go_ret
            exact ⟨⟨false, rfl, fun h => (by cases h), fun _ => trivial⟩, below_drewN hbel2 _⟩
          · have hb1 := strq_ne he
            have HL' : Hid (∀ l, k < l → l < j + 1 → K k ≠ K l) := fun l h1 h2 => by
              rcases Nat.lt_or_ge l j with h3 | h3
              · exact HL.out l h1 h3
              · obtain rfl : l = j := by omega
                exact he
            clear he hc
            go_wp2
            go_quiet (fail)
            go_wp2
            go_roundw
            case rel => exact ⟨j + 1, by omega, by omega, by go_num, HL', below_drewN hbel2 _⟩
            case measure => simp [intOf]; omega
        · obtain rfl : m = j := by omega
          have HD' : Hid (∀ i j, i < k + 1 → i < j → j < m → K i ≠ K j) := fun i j h1 h2 h3 => by
            rcases Nat.lt_or_ge i k with h4 | h4
            · exact HD.out i j h4 h2 h3
            · obtain rfl : i = k := by omega
              exact HL.out j h2 h3
          go_wp2
          go_roundw
          case rel => first | exact ⟨k + 1, by omega, by go_num, HD', hbel2⟩ | (repeat apply Exists.intro; exact ⟨⟨k + 1, by omega, by go_num, HD', hbel2⟩, rfl⟩)
          case measure => simp [intOf]; omega
    · obtain rfl : m = k := by omega
      go_wp2
      go_ret
      exact ⟨⟨true, rfl, fun _ i j h1 h2 => HD.out i j (by omega) h1 h2, fun _ => trivial⟩, hbel⟩

set_option maxRecDepth 100000 in
set_option maxHeartbeats 4000000 in
theorem sameCell_any (sa : Option Addr) (ca : Nat) (sb : Option Addr) (cb : Nat) (L1 L2 : List Nat) (X : Nat → B1) (key : ByteArray) (p : Int) (w : World) (hl1 : L1.length ≤ 65536) (hl2 : L2.length ≤ 65536) (h1 : OpsV w sa L1 X) (h2 : OpsV w sb L2 X)
    (heq : L1.filter (fun i => (X i).p == p) = L2.filter (fun i => decide ((X i).k = key))) :
    Calls Try.prog 22 #[.slice sa L1.length ca, .slice sb L2.length cb, .string key, .int .i64 p] w fun e w' => e = .returned (.bool true) ∧ Below w.heap.size w w' := by
  have HE : Hid ((L1.drop 0).filter (fun i => (X i).p == p) = (L2.drop 0).filter (fun i => decide ((X i).k = key))) := heq
  clear heq
  go_enter Try.func22, Try.ntmps22
  go_wp2
  go_loopw [9, 10] (fun iv jv wr => ∃ i j : Nat, i ≤ L1.length ∧ j ≤ L2.length ∧ iv = .int .i64 i ∧ jv = .int .i64 j ∧ Hid ((L1.drop i).filter (fun i => (X i).p == p) = (L2.drop j).filter (fun i => decide ((X i).k = key))) ∧ Below w.heap.size w wr) (fun iv jv _ => (L1.length - (intOf iv).toNat) + (L2.length - (intOf jv).toNat))
  case atStart => exact ⟨0, 0, by omega, by omega, rfl, rfl, HE, Below.refl _ _⟩
  case round =>
    obtain ⟨i, j, hi, hj, rfl, rfl, HI, hbel⟩ := hrel
    have v1 := h1.below hbel
    have v2 := h2.below hbel
    have i1 : (0 : Int) ≤ (i : Int) := by omega
    have i3 : (0 : Int) ≤ (j : Int) := by omega
    clear h1 h2 HE
    by_cases hA : ∃ a, L1[i]? = some a ∧ ((X a).p == p) = false
    · obtain ⟨a, ha, hp⟩ := hA
      have hlt : i < L1.length := (List.getElem?_eq_some_iff.1 ha).1
      obtain ⟨b, off, hbl, rfl, hc⟩ := v1 (by omega)
      have c0 := (hc i a ha).ten1.c0
      have HI' : Hid ((L1.drop (i + 1)).filter (fun i => (X i).p == p) = (L2.drop j).filter (fun i => decide ((X i).k = key))) := (drop_skip ha hp).symm.trans HI.out
      have i2 : (i : Int) < (L1.length : Int) := by omega
      generalize (X a).p = xp at *
      clear hc ha
      go_wp2
      go_roundw
      case rel => exact ⟨i + 1, j, by omega, by omega, by go_num, rfl, HI', hbel⟩
      case measure => simp [intOf]; omega
    · have HA : Hid (∀ a, L1[i]? = some a → ((X a).p == p) = true) := fun a ha => by
        cases hp : ((X a).p == p) with
        | true => rfl
        | false => exact absurd ⟨a, ha, hp⟩ hA
      clear hA
      by_cases hB : ∃ a, L2[j]? = some a ∧ ¬ (X a).k = key
      · obtain ⟨a, ha, hp⟩ := hB
        have hlt : j < L2.length := (List.getElem?_eq_some_iff.1 ha).1
        obtain ⟨b, off, hbl, rfl, hc⟩ := v2 (by omega)
        have c1 := (hc j a ha).ten1.c1
        have HI' : Hid ((L1.drop i).filter (fun i => (X i).p == p) = (L2.drop (j + 1)).filter (fun i => decide ((X i).k = key))) := HI.out.trans (drop_skip (f := fun i => decide ((X i).k = key)) ha (by simp [hp]))
        have i4 : (j : Int) < (L2.length : Int) := by omega
        have hs := strk_ne hp
        generalize (X a).k = xk at *
        clear hc ha hp
        by_cases hlt1 : i < L1.length
        · obtain ⟨b1, off1, hbl1, rfl, hc1⟩ := v1 (by omega)
          have e1 : L1[i]? = some L1[i] := List.getElem?_eq_getElem hlt1
          have c0 := (hc1 i _ e1).ten1.c0
          have hp1 := HA.out _ e1
          have i2 : (i : Int) < (L1.length : Int) := by omega
          generalize (X L1[i]).p = xp at *
          clear hc1 e1
          go_wp2
          go_roundw
          case rel => exact ⟨i, j + 1, by omega, by omega, rfl, by go_num, HI', hbel⟩
          case measure => simp [intOf]; omega
        · go_wp2
          go_roundw
          case rel => exact ⟨i, j + 1, by omega, by omega, rfl, by go_num, HI', hbel⟩
          case measure => simp [intOf]; omega
      · have HB : Hid (∀ a, L2[j]? = some a → decide ((X a).k = key) = true) := fun a ha => by
          by_cases hp : (X a).k = key
          · simp [hp]
          · exact absurd ⟨a, ha, hp⟩ hB
        clear hB
        by_cases hor : i < L1.length ∨ j < L2.length
        · obtain ⟨a, ha1, ha2, hne⟩ := both_hit HI.out HA.out HB.out hor
          have HI' : Hid ((L1.drop (i + 1)).filter (fun i => (X i).p == p) = (L2.drop (j + 1)).filter (fun i => decide ((X i).k = key))) := hne
          have hlt1 : i < L1.length := (List.getElem?_eq_some_iff.1 ha1).1
          have hlt2 : j < L2.length := (List.getElem?_eq_some_iff.1 ha2).1
          obtain ⟨b1, off1, hbl1, rfl, hc1⟩ := v1 (by omega)
          obtain ⟨b2, off2, hbl2, rfl, hc2⟩ := v2 (by omega)
          have E1 := (hc1 i a ha1).ten1
          have E2 := (hc2 j a ha2).ten1
          have hp1 := HA.out _ ha1
          have hk : (X a).k = key := by simpa using HB.out _ ha2
          have hk1 : ((X a).k.toList == key.toList) = true := by rw [hk]; simp
          generalize X a = x at *
          have i2 : (i : Int) < (L1.length : Int) := by omega
          have i4 : (j : Int) < (L2.length : Int) := by omega
          have q1 : ((i : Int) == (L1.length : Int)) = false := by rw [beq_eq_false_iff_ne]; omega
          have q2 : ((j : Int) == (L2.length : Int)) = false := by rw [beq_eq_false_iff_ne]; omega
          obtain ⟨d0, d1, d2, d3, d4, d5, d6, d7, d8, d9, d10⟩ := E1
          obtain ⟨f0, f1, f2, f3, f4, f5, f6, f7, f8, f9, f10⟩ := E2
          clear hc1 hc2 ha1 ha2 hne hor hk
          go_wp2
          go_quiet (fail)
          go_wp2
          go_roundw
          case rel => exact ⟨i + 1, j + 1, by omega, by omega, by go_num, by go_num, HI', below_drewN hbel _⟩
          case measure => simp [intOf]; omega
        · obtain rfl : L1.length = i := by omega
          obtain rfl : L2.length = j := by omega
          clear hor
          go_wp2
          go_ret
          exact ⟨rfl, hbel⟩

end Go.Proofs.Qxb6603043a
