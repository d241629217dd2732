import Derived.Test.Qxb6603043aBase
namespace Go.Proofs.Qxb6603043a
open Go.RowKit

set_option maxHeartbeats 1000000 in
theorem size_any (a1 : Option Addr) (n cap1 : Nat) (X : Nat → B1) (a2 : Option Addr) (m cap2 : Nat) (K : Nat → ByteArray) (w : World) (m1 : n ≤ 65536) (m2 : m ≤ 65536)
    (h1 : Ops w a1 n X) (h2 : Strs w a2 m K) (f1 : Fit n X) (f2 : FitK m K) :
    Calls Try.prog 9 #[.slice a1 n cap1, .slice a2 m cap2] w fun e w' => ∃ r : Int, e = .returned (.int .i64 r) ∧ w' = w := by
  have fk : ∀ i, i < n → (X i).k.size ≤ 9223372036854775807 := fun i hi => by have := f1.k i hi; rwa [maxLen_is] at this
  have fk2 : ∀ i, i < m → (K i).size ≤ 9223372036854775807 := fun i hi => by have := f2 i hi; rwa [maxLen_is] at this
  go_enter Try.func9, Try.ntmps9
  go_wp2
  go_loop [5, 6] (fun z i => ∃ (k : Nat) (s : Int), k ≤ n ∧ i = .int .i64 k ∧ z = .int .i64 s ∧ 0 ≤ s ∧ s ≤ 4718592) (fun _ i => n - (intOf i).toNat)
  case atStart => exact ⟨0, _, by omega, rfl, rfl, by omega, by omega⟩
  case round =>
    obtain ⟨k, s, hk, rfl, rfl, s0, s1⟩ := hrel
    by_cases hlt : k < n
    · obtain ⟨b, off, _, rfl, hc⟩ := h1 (by omega)
      have d1 := (hc k hlt).c1
      have d2 := fk k hlt
      obtain ⟨ks, hks⟩ : ∃ ks, ks = (X k).k := ⟨_, rfl⟩
      rw [← hks] at d1 d2
      clear hc hks fk fk2 h1 h2
      go_wp2
      · go_ret
        first | exact ⟨_, rfl, rfl⟩ | exact ⟨⟨_, rfl⟩, rfl⟩
      · go_ret
        first | exact ⟨_, rfl, rfl⟩ | exact ⟨⟨_, rfl⟩, rfl⟩
      · go_round
        case rel => exact ⟨k + 1, _, by omega, by go_num, rfl, by omega, by omega⟩
        case measure => simp [intOf]; omega
    · go_wp2
      go_loop [5, 7] (fun z i => ∃ (k : Nat) (s : Int), k ≤ m ∧ i = .int .i64 k ∧ z = .int .i64 s ∧ 0 ≤ s ∧ s ≤ 4718592) (fun _ i => m - (intOf i).toNat)
      case atStart => exact ⟨0, s, by omega, rfl, rfl, by omega, by omega⟩
      case round =>
        obtain ⟨k', s', hk', rfl, rfl, s0', s1'⟩ := hrel
        by_cases hlt' : k' < m
        · obtain ⟨b, off, _, rfl, hc⟩ := h2 (by omega)
          have d1 := hc k' hlt'
          have d2 := fk2 k' hlt'
          obtain ⟨ks, hks⟩ : ∃ ks, ks = K k' := ⟨_, rfl⟩
          rw [← hks] at d1 d2
          clear hc hks fk fk2 h1 h2
          go_wp2
          · go_ret
            first | exact ⟨_, rfl, rfl⟩ | exact ⟨⟨_, rfl⟩, rfl⟩
          · go_ret
            first | exact ⟨_, rfl, rfl⟩ | exact ⟨⟨_, rfl⟩, rfl⟩
          · go_round
            case rel => exact ⟨k' + 1, _, by omega, by go_num, rfl, by omega, by omega⟩
            case measure => simp [intOf]; omega
        · go_wp2
          go_ret
          first | exact ⟨_, rfl, rfl⟩ | exact ⟨⟨_, rfl⟩, rfl⟩

end Go.Proofs.Qxb6603043a
