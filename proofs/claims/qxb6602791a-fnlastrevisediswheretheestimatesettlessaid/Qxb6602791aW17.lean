import Derived.Test.Qxb6602791aBase
namespace Go.Proofs.Qxb6602791a
open Go.RowKit

set_option maxHeartbeats 400000 in
theorem bytes17_any (p : Int) (a1 a2 a3 : Option Addr) (n1 c1 n2 c2 n3 c3 : Nat) (w : World) (h1 : n1 ≤ 9223372036854775807) (h2 : n2 ≤ 9223372036854775807) (h3 : n3 ≤ 9223372036854775807) :
    Calls Try.prog 17 #[.int .i64 p, .slice a1 n1 c1, .slice a2 n2 c2, .slice a3 n3 c3] w fun e w' => ∃ r : Bool, e = .returned (.bool r) ∧ w' = w := by
  go_enter Try.func17, Try.ntmps17
  go_wp2
  all_goals go_ret
  all_goals exact ⟨_, rfl, rfl⟩

set_option maxHeartbeats 400000 in
theorem bytes6_any (p : Int) (a1 a2 : Option Addr) (n1 c1 n2 c2 : Nat) (x y : Int) (w : World) (h1 : n1 ≤ 9223372036854775807) (h2 : n2 ≤ 9223372036854775807) :
    Calls Try.prog 6 #[.int .i64 p, .slice a1 n1 c1, .slice a2 n2 c2, .int .i64 x, .int .i64 y] w fun e w' => ∃ r : Bool, e = .returned (.bool r) ∧ w' = w := by
  go_enter Try.func6, Try.ntmps6
  go_wp2
  all_goals go_ret
  all_goals exact ⟨_, rfl, rfl⟩

set_option maxHeartbeats 400000 in
theorem bytes19_any (p : Int) (a1 a2 : Option Addr) (n1 c1 n2 c2 : Nat) (x : Int) (w : World) (h1 : n1 ≤ 9223372036854775807) (h2 : n2 ≤ 9223372036854775807) :
    Calls Try.prog 19 #[.int .i64 p, .slice a1 n1 c1, .slice a2 n2 c2, .int .i64 x] w fun e w' => ∃ r : Bool, e = .returned (.bool r) ∧ w' = w := by
  go_enter Try.func19, Try.ntmps19
  go_wp2
  all_goals go_ret
  all_goals exact ⟨_, rfl, rfl⟩

end Go.Proofs.Qxb6602791a
