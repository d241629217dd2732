import Derived.Test.Qxb6603043aBase
namespace Go.Proofs.Qxb6603043a
open Go.RowKit

set_option maxHeartbeats 1000000 in
theorem bytes15_any (a1 : Option Addr) (n cap1 : Nat) (X : Nat → B1) (a2 : Option Addr) (m cap2 : Nat) (K : Nat → ByteArray) (pr : Int) (w : World) (m1 : n ≤ 9223372036854775807) (m2 : m ≤ 9223372036854775807)
    (h1 : Ops w a1 n X) (h2 : Strs w a2 m K) (f1 : Fit n X) (f2 : FitK m K) :
    Calls Try.prog 15 #[.slice a1 n cap1, .slice a2 m cap2, .int .i64 pr] w fun e w' => IsBool e ∧ w' = w := by
  have fk : ∀ i, i < n → (X i).k.size ≤ 9223372036854775807 := fun i hi => by have := f1.k i hi; rwa [maxLen_is] at this
  have fk2 : ∀ i, i < m → (K i).size ≤ 9223372036854775807 := fun i hi => by have := f2 i hi; rwa [maxLen_is] at this
  by_cases t1 : 1048576 < n
  · go_enter Try.func15, Try.ntmps15
    go_wp2
    go_ret
    exact ⟨⟨_, rfl⟩, rfl⟩
  go_enter Try.func15, Try.ntmps15
  go_wp2
  go_loop [7, 8] (fun z i => ∃ (k : Nat) (s : Int), k ≤ n ∧ i = .int .i64 k ∧ z = .int .i64 s ∧ 0 ≤ s ∧ s ≤ 1048576) (fun _ i => n - (intOf i).toNat)
  case atStart => exact ⟨0, n, by omega, rfl, rfl, by omega, by omega⟩
  case round =>
    obtain ⟨k, s, hk, rfl, rfl, s0, s1⟩ := hrel
    by_cases hlt : k < n
    · obtain ⟨b, off, _, rfl, hc⟩ := h1 (by omega)
      have d1 := (hc k hlt).c1
      have d2 := fk k hlt
      obtain ⟨ks, hks⟩ : ∃ ks, ks = (X k).k := ⟨_, rfl⟩
      rw [← hks] at d1 d2
      clear hc hks fk fk2 h1 h2
      go_wp2
      · go_ret
        exact ⟨⟨_, rfl⟩, rfl⟩
      · go_ret
        exact ⟨⟨_, rfl⟩, rfl⟩
      · go_round
        case rel => exact ⟨k + 1, _, by omega, by go_num, rfl, by omega, by omega⟩
        case measure => simp [intOf]; omega
    · by_cases t2 : 1048576 < m
      · go_wp2
        go_ret
        exact ⟨⟨_, rfl⟩, rfl⟩
      by_cases t3 : 1048576 < s + m
      · go_wp2
        go_ret
        exact ⟨⟨_, rfl⟩, rfl⟩
      go_wp2
      go_loop [7, 9] (fun z i => ∃ (k : Nat) (s : Int), k ≤ m ∧ i = .int .i64 k ∧ z = .int .i64 s ∧ 0 ≤ s ∧ s ≤ 1048576) (fun _ i => m - (intOf i).toNat)
      case atStart => exact ⟨0, s + m, by omega, rfl, rfl, by omega, by omega⟩
      case round =>
        obtain ⟨k', s', hk', rfl, rfl, s0', s1'⟩ := hrel
        by_cases hlt' : k' < m
        · obtain ⟨b, off, _, rfl, hc⟩ := h2 (by omega)
          have d1 := hc k' hlt'
          have d2 := fk2 k' hlt'
          obtain ⟨ks, hks⟩ : ∃ ks, ks = K k' := ⟨_, rfl⟩
          rw [← hks] at d1 d2
          clear hc hks fk fk2 h1 h2
          go_wp2
          · go_ret
            exact ⟨⟨_, rfl⟩, rfl⟩
          · go_ret
            exact ⟨⟨_, rfl⟩, rfl⟩
          · go_round
            case rel => exact ⟨k' + 1, _, by omega, by go_num, rfl, by omega, by omega⟩
            case measure => simp [intOf]; omega
        · go_wp2
          go_ret
          exact ⟨⟨_, rfl⟩, rfl⟩

end Go.Proofs.Qxb6603043a
