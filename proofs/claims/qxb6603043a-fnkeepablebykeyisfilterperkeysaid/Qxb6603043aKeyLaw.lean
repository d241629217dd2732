import Derived.Test.Qxb6603043aKeyA
import Derived.Test.Qxb6603043aIsK
import Derived.Test.Qxb6603043aProcLaw
import Derived.Test.Qxb6603043aBytes8
namespace Go.Proofs.Qxb6603043a
open Go.RowKit Go.Maps
open UF

attribute [local go_sem ↓] Go.wp_at_zero Go.wp_at_succ

set_option maxRecDepth 100000 in
set_option maxHeartbeats 4000000 in
theorem keyLaw_any (a1 : Option Addr) (n cap1 : Nat) (X : Nat → B1) (a2 : Option Addr) (m cap2 : Nat) (K : Nat → ByteArray) (pr : Int) (w : World) (m1 : n ≤ 9223372036854775807) (m2 : m ≤ 9223372036854775807)
    (h1 : Ops w a1 n X) (h2 : Strs w a2 m K) (f1 : Fit n X) (f2 : FitK m K) :
    Calls Try.prog 3 #[.slice a1 n cap1, .slice a2 m cap2, .int .i64 pr] w fun e w' => e = .returned (.bool true) ∧ Below w.heap.size w w' := by
  go_enter Try.func3, Try.ntmps3
  go_wp2_with fail
  refine (bytes8_any a1 n cap1 X a2 m cap2 K pr w m1 m2 h1 h2 f1 f2).mono ?_
  rintro e w0 ⟨⟨r, rfl⟩, hw⟩
  subst w0
  cases r with
  | false =>
    go_wp2
    go_ret
    exact ⟨rfl, Below.refl _ _⟩
  | true =>
  by_cases t1 : 65536 < n
  · go_wp2
    go_ret
    exact ⟨rfl, Below.refl _ _⟩
  by_cases t2 : 65536 < m
  · go_wp2
    go_ret
    exact ⟨rfl, Below.refl _ _⟩
  go_wp2_with fail
  refine (size_any a1 n cap1 X a2 m cap2 K w (by omega) (by omega) h1 h2 f1 f2).mono ?_
  rintro e w0 ⟨r, rfl, hw⟩
  subst w0
  by_cases t3 : 1048576 < r
  · go_wp2
    go_ret
    exact ⟨rfl, Below.refl _ _⟩
  go_wp2_with fail
  refine (cover_any a1 n cap1 X a2 m cap2 K w (by omega) (by omega) h1 h2).mono ?_
  rintro e wC ⟨⟨r, rfl, hcov, _⟩, hbC⟩
  cases r with
  | false =>
    go_wp2
    go_ret
    exact ⟨rfl, hbC⟩
  | true =>
  have HC : Hid (∀ i, i < n → keepB (X i) = true → ∃ j, j < m ∧ K j = (X i).k) := hcov rfl
  clear hcov
  have h1C := h1.below hbC
  have h2C := h2.below hbC
  clear h1 h2
  go_wp2_with fail
  refine (build_any a1 n cap1 X a2 m cap2 K pr wC (by omega) (by omega) h1C h2C).mono ?_
  rintro e wA ⟨hb, rfl, hH, hbA⟩
  go_wp2_with fail
  refine (byKey_any hb n m X K wA (by omega) (by omega) f1 f2 HC.out hH).mono ?_
  rintro e wB ⟨a, cap, F, kap, rfl, hL, hkap, hG, hbB⟩
  have hbB' := hbA.trans (hbB.mono hbA.size)
  have hO := h1C.below hbB'
  have hS := h2C.below hbB'
  have HL : Hid (Lasts m K F) := hL
  have HK : Hid (∀ i, i < n → kB X i = true → F (X i).k = some (kap i)) := hkap
  have HB : Hid (Below w.heap.size w wB) := hbC.trans (hbB'.mono hbC.size)
  have hsz := HB.out.size
  clear hH hbA hbB f1 f2 hL hkap hbC h1C h2C hbB'
  go_wp2
  go_loopw [9] (fun i wr => ∃ q : Nat, q ≤ m ∧ i = .int .i64 q ∧ Below wB.heap.size wB wr) (fun i _ => m - (intOf i).toNat)
  case atStart => exact ⟨0, by omega, rfl, Below.refl _ _⟩
  case round =>
    obtain ⟨q, hq, rfl, hbel⟩ := hrel
    by_cases hqm : q < m
    · go_wp2_with fail
      refine (keyLater_any a2 m cap2 q K wr (by omega) hqm (hS.below hbel)).mono ?_
      rintro e w2 ⟨⟨r, rfl, hr1, hr2⟩, hb2⟩
      have hbel2 := hbel.trans (hb2.mono hbel.size)
      obtain ⟨pg, sa, sc, rfl, e1, e2⟩ := (hG.below hbel2) q hqm
      have i1 : (0 : Int) ≤ (q : Int) := by omega
      have i2 : (q : Int) < (m : Int) := by omega
      have hpgl := World.block_lt_of_cell? _ _ e1
      cases r with
      | true =>
        obtain ⟨l, hl1, hl2, hl3⟩ := hr1 rfl
        have eg : grp X kap n q = [] := group_early (Q := fun i => (X i).k) HL.out HK.out hl1 hl2 hl3
        rw [eg] at e1
        clear hr1 hr2 eg hl3 e2
        go_wp2_with fail
        go_roundw
        case rel => exact ⟨q + 1, by omega, by go_num, hbel2⟩
        case measure => simp [intOf]; omega
      | false =>
        have eg : grp X kap n q = filt (prK X (K q)) n := group_last (Q := fun i => (X i).k) HL.out HK.out hqm (hr2 rfl)
        rw [eg] at e1 e2
        obtain ⟨b, off, hbl, rfl, hc⟩ := (hS.below hbel2) (by omega)
        have d1 := hc q hqm
        have hO3 := hO.below hbel2
        obtain ⟨p, hp⟩ : ∃ p, p = K q := ⟨_, rfl⟩
        rw [← hp] at d1 e1 e2
        clear hr1 hr2 eg hc hp
        go_wp2_with fail
        go_region_held3 (fun w' => w'.cell? ⟨pg, q, none⟩ = some (.slice sa (filt (prK X p) n).length sc) ∧ w'.cell? ⟨b, off + q, none⟩ = some (.string p))
          (first | exact ⟨e1, d1⟩ | exact ⟨keep_cell e1 (by assumption), keep_cell d1 (by assumption)⟩)
          (first | (go_at_call 14; refine (isKeptK_any sa sc a1 n cap1 X p _ (by omega) ?_ ?_).mono ?_; exact hO3.below ((Below.refl _ _).drew); exact e2.below ((Below.refl _ _).drew); rintro e w3 ⟨rfl, hb3⟩))
        have hb4 := hbel2.drew.trans (hb3.mono hbel2.size)
        go_wp2
        go_roundw
        case rel => exact ⟨q + 1, by omega, by go_num, hb4⟩
        case measure => simp [intOf]; omega
    · go_wp2
      go_ret
      exact ⟨rfl, HB.out.trans (hbel.mono hsz)⟩

end Go.Proofs.Qxb6603043a
