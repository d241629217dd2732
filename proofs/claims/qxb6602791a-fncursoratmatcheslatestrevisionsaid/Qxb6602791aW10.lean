import Derived.Test.Qxb6602791aBase
import Derived.Test.Qxb6602791aPlain
import Derived.Deep.QuietTactic
import Derived.BigQuiet
namespace Go.Proofs.Qxb6602791a
open Go.RowKit

set_option maxHeartbeats 1000000 in
theorem stands_any (p : Int) (a1 : Option Addr) (n cap1 : Nat) (ys : List Int) (a2 : Option Addr) (cap2 : Nat) (qs : List Int) (y : Int) (w : World) (hm : n ≤ 1048576) (h1 : Ints w a1 n ys) (h2 : Ints w a2 n qs) (hs : StrictInc n ys) :
    Calls Try.prog 10 #[.int .i64 p, .slice a1 n cap1, .slice a2 n cap2, .int .i64 y] w fun e w' => ∃ c : Nat, e = .returned (.tuple #[.int .i64 (qAt p qs c), .bool (rAt ys y c), .int .i64 c]) ∧ Stands n ys y c ∧ w' = w := by
  have HS : Hid (StrictInc n ys) := hs
  clear hs
  go_enter Try.func10, Try.ntmps10
  go_wp2
  go_loop [11, 12, 13, 14, 15, 16] (fun q f b r t i => ∃ k c : Nat, c ≤ k ∧ k ≤ n ∧ i = .int .i64 k ∧ t = .int .i64 c ∧ q = .int .i64 (qAt p qs c) ∧ f = .bool (decide (0 < c)) ∧ b = .int .i64 (bAt ys c) ∧ r = .bool (rAt ys y c) ∧ Hid ((∀ i, i < c → ys.getD i 0 ≤ y) ∧ (c < k → y < ys.getD c 0))) (fun _ _ _ _ _ i => n - (intOf i).toNat)
  case atStart => exact ⟨0, 0, by omega, by omega, rfl, rfl, rfl, rfl, rfl, rfl, ⟨fun i hi => by omega, fun h => by omega⟩⟩
  case round =>
    obtain ⟨k, c, hck, hk, rfl, rfl, rfl, rfl, rfl, rfl, HI⟩ := hrel
    by_cases hlt : k < n
    · obtain ⟨b1, o1, rfl, hc1⟩ := h1 (by omega)
      obtain ⟨b2, o2, rfl, hc2⟩ := h2 (by omega)
      have d1 := hc1 k hlt
      have d2 := hc2 k hlt
      obtain ⟨yk, hyk⟩ : ∃ yk, yk = ys.getD k 0 := ⟨_, rfl⟩
      obtain ⟨qk, hqk⟩ : ∃ qk, qk = qs.getD k 0 := ⟨_, rfl⟩
      rw [← hyk] at d1
      rw [← hqk] at d2
      clear hc1 hc2
      by_cases hle : yk ≤ y
      · have hc : c = k := hit_is HS.out hck hlt HI.out.2 (by omega)
        subst hc
        have hnr := rAt_hit HS.out hlt (y := y) (by omega)
        have HQ : Hid (qAt p qs (c + 1) = qk) := by rw [hqk]; exact qAt_succ _ _ _
        have HB : Hid (bAt ys (c + 1) = yk) := by rw [hyk]; exact bAt_succ _ _
        have HR : Hid (rAt ys y (c + 1) = (yk == y)) := by rw [hyk]; exact rAt_succ _ _ _
        have HN : Hid ((∀ i, i < c + 1 → ys.getD i 0 ≤ y) ∧ (c + 1 < c + 1 → y < ys.getD (c + 1) 0)) := by
          refine ⟨fun i hi => ?_, fun h => by omega⟩
          rcases Nat.lt_or_ge i c with h | h
          · exact HI.out.1 i h
          · obtain rfl : i = c := by omega
            omega
        have hbl : 0 < c → bAt ys c < yk := fun h => by rw [hyk]; exact bAt_lt HS.out h hlt
        clear hyk hqk
        rw [hnr]
        by_cases h0 : c = 0
        · subst h0
          simp only [Nat.add_zero] at d1 d2
          by_cases he : (yk == y) = true
          all_goals
            go_wp2
            go_round
            case rel => exact ⟨0 + 1, 0 + 1, by omega, by omega, by go_num, by go_num, by rw [HQ.out], by rfl, by rw [HB.out], by rw [HR.out]; simp_all, HN⟩
            case measure => simp [intOf]; omega
        · have hbl' := hbl (by omega)
          have hd : decide (0 < c) = true := by simp; omega
          by_cases he : (yk == y) = true
          all_goals
            go_wp2
            go_round
            case rel => exact ⟨c + 1, c + 1, by omega, by omega, by go_num, by go_num, by rw [HQ.out], by simp, by rw [HB.out], by rw [HR.out]; simp_all, HN⟩
            case measure => simp [intOf]; omega
      · have HN : Hid ((∀ i, i < c → ys.getD i 0 ≤ y) ∧ (c < k + 1 → y < ys.getD c 0)) := by
          refine ⟨HI.out.1, fun h => ?_⟩
          rcases Nat.lt_or_ge c k with h | h
          · exact HI.out.2 h
          · obtain rfl : c = k := by omega
            omega
        clear hyk hqk
        go_wp2
        go_round
        case rel => exact ⟨k + 1, c, by omega, by omega, by go_num, rfl, rfl, rfl, rfl, rfl, HN⟩
        case measure => simp [intOf]; omega
    · obtain rfl : k = n := by omega
      go_wp2
      go_ret3
      exact ⟨c, rfl, ⟨hck, HI.out.1, HI.out.2⟩, rfl⟩

end Go.Proofs.Qxb6602791a
