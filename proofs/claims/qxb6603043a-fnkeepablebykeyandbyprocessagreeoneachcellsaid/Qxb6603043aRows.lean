/-
  No cell of these rows narrows 'for every input' (looked for: loops, veiled, ifaces, maps, wideKeys, modest, calm, conditions, laid).
  DERIVED. THE GIVEN ROWS OF THIS SEAT. 5 by the template 'for every input the law returns true; each argument reads behind the call as it read before'; 0 by the template 'total and deterministic' (their statements: Qxb6603043aTotals.lean).
  GIVEN WITH THE SEED: the statements are not yours to turn. If you find one false, say at which input.
  Laid BY PROGRAM, IN A SANDBOX (cutbox-rows.mjs): the forced cells as the released guide's own fill.sh prints them over the translation e7b403526e14b792… (all of the seat's roots in one cut). By AI agents, Wed Nov 11 2026. No macro, syntax, notation, axiom, sorry.
-/
import Derived.Test.Qxb6603043aChecked
import GoSem.Claim
import GoSem.ClaimJoined
import GoSem.ClaimMapViews
import Derived.JoinedTies
import Derived.KernelRfl
namespace Go.Proofs.Qxb6603043a
/- THE CELL 'sum', in the pinned program and in every row, IS THE sha256 OF THE DUMP (.gsa) THAT Qxb6603043aProg.lean LOADS. Nothing in Lean hashes anything: it is a label: what it is worth is what the hold of that sum in a sandbox is worth. -/
noncomputable def Try.pinned : Pinned := { name := "qxb6603043a", sum := "e7b403526e14b7927107b84e7c3bf9b8ad32cb1fbaacec958f9f44de1782216b", checked := Try.checked }
namespace Rows
def none {H : Type} : Left H := { results := [], args := [] }

/-- 'zzlaws_pkg_history_b1.FnKeepableByKeyIsFilterPerKey': WHATEVER THE INPUT: true; the input reads as it did. -/
def fnKeepableByKeyIsFilterPerKeySpec : ChangeSpec := { name := "fnKeepableByKeyIsFilterPerKey", fn := fun _ => fun
  | [d1, d2, d3] => { results := [.lit (.bool true)], args := [d1, d2, d3] }
  | _ => none }
def fnKeepableByKeyIsFilterPerKeyRow : OpenClaim := { program := "qxb6603043a", sum := "e7b403526e14b7927107b84e7c3bf9b8ad32cb1fbaacec958f9f44de1782216b", func := "example.com/orderwise/orderwise/zzlaws_pkg_history_b1.FnKeepableByKeyIsFilterPerKey", spec := "fnKeepableByKeyIsFilterPerKey", apart := false }
def FnKeepableByKeyIsFilterPerKeySaid : Prop := fnKeepableByKeyIsFilterPerKeyRow.holds Try.pinned (OpenSpec.ofChange fnKeepableByKeyIsFilterPerKeySpec)

/-- ITS FALSE NEIGHBOUR: 'it returns false'. Refute it at one input. -/
def fnKeepableByKeyIsFilterPerKeyWrong : ChangeSpec := { name := "fnKeepableByKeyIsFilterPerKey", fn := fun _ => fun
  | [d1, d2, d3] => { results := [.lit (.bool false)], args := [d1, d2, d3] }
  | _ => none }
def FnKeepableByKeyIsFilterPerKeyWrongFalsely : Prop := fnKeepableByKeyIsFilterPerKeyRow.holds Try.pinned (OpenSpec.ofChange fnKeepableByKeyIsFilterPerKeyWrong)

/-- 'zzlaws_pkg_history_b1.FnKeepableByProcessIsFilterPerProcess': WHATEVER THE INPUT: true; the input reads as it did. -/
def fnKeepableByProcessIsFilterPerProcessSpec : ChangeSpec := { name := "fnKeepableByProcessIsFilterPerProcess", fn := fun _ => fun
  | [d1, d2, d3] => { results := [.lit (.bool true)], args := [d1, d2, d3] }
  | _ => none }
def fnKeepableByProcessIsFilterPerProcessRow : OpenClaim := { program := "qxb6603043a", sum := "e7b403526e14b7927107b84e7c3bf9b8ad32cb1fbaacec958f9f44de1782216b", func := "example.com/orderwise/orderwise/zzlaws_pkg_history_b1.FnKeepableByProcessIsFilterPerProcess", spec := "fnKeepableByProcessIsFilterPerProcess", apart := false }
def FnKeepableByProcessIsFilterPerProcessSaid : Prop := fnKeepableByProcessIsFilterPerProcessRow.holds Try.pinned (OpenSpec.ofChange fnKeepableByProcessIsFilterPerProcessSpec)

/-- ITS FALSE NEIGHBOUR: 'it returns false'. Refute it at one input. -/
def fnKeepableByProcessIsFilterPerProcessWrong : ChangeSpec := { name := "fnKeepableByProcessIsFilterPerProcess", fn := fun _ => fun
  | [d1, d2, d3] => { results := [.lit (.bool false)], args := [d1, d2, d3] }
  | _ => none }
def FnKeepableByProcessIsFilterPerProcessWrongFalsely : Prop := fnKeepableByProcessIsFilterPerProcessRow.holds Try.pinned (OpenSpec.ofChange fnKeepableByProcessIsFilterPerProcessWrong)

/-- 'zzlaws_pkg_history_b1.FnKeepableByKeyAndByProcessAgreeOnEachCell': WHATEVER THE INPUT: true; the input reads as it did. -/
def fnKeepableByKeyAndByProcessAgreeOnEachCellSpec : ChangeSpec := { name := "fnKeepableByKeyAndByProcessAgreeOnEachCell", fn := fun _ => fun
  | [d1, d2, d3] => { results := [.lit (.bool true)], args := [d1, d2, d3] }
  | _ => none }
def fnKeepableByKeyAndByProcessAgreeOnEachCellRow : OpenClaim := { program := "qxb6603043a", sum := "e7b403526e14b7927107b84e7c3bf9b8ad32cb1fbaacec958f9f44de1782216b", func := "example.com/orderwise/orderwise/zzlaws_pkg_history_b1.FnKeepableByKeyAndByProcessAgreeOnEachCell", spec := "fnKeepableByKeyAndByProcessAgreeOnEachCell", apart := false }
def FnKeepableByKeyAndByProcessAgreeOnEachCellSaid : Prop := fnKeepableByKeyAndByProcessAgreeOnEachCellRow.holds Try.pinned (OpenSpec.ofChange fnKeepableByKeyAndByProcessAgreeOnEachCellSpec)

/-- ITS FALSE NEIGHBOUR: 'it returns false'. Refute it at one input. -/
def fnKeepableByKeyAndByProcessAgreeOnEachCellWrong : ChangeSpec := { name := "fnKeepableByKeyAndByProcessAgreeOnEachCell", fn := fun _ => fun
  | [d1, d2, d3] => { results := [.lit (.bool false)], args := [d1, d2, d3] }
  | _ => none }
def FnKeepableByKeyAndByProcessAgreeOnEachCellWrongFalsely : Prop := fnKeepableByKeyAndByProcessAgreeOnEachCellRow.holds Try.pinned (OpenSpec.ofChange fnKeepableByKeyAndByProcessAgreeOnEachCellWrong)

/-- 'zzlaws_pkg_history_b1.FnSeparateIsConnectedComponents': WHATEVER THE INPUT: true; the input reads as it did. -/
def fnSeparateIsConnectedComponentsSpec : ChangeSpec := { name := "fnSeparateIsConnectedComponents", fn := fun _ => fun
  | [d1, d2, d3] => { results := [.lit (.bool true)], args := [d1, d2, d3] }
  | _ => none }
def fnSeparateIsConnectedComponentsRow : OpenClaim := { program := "qxb6603043a", sum := "e7b403526e14b7927107b84e7c3bf9b8ad32cb1fbaacec958f9f44de1782216b", func := "example.com/orderwise/orderwise/zzlaws_pkg_history_b1.FnSeparateIsConnectedComponents", spec := "fnSeparateIsConnectedComponents", unfollowed := true, recurses := true, apart := false }
def FnSeparateIsConnectedComponentsSaid : Prop := fnSeparateIsConnectedComponentsRow.holds Try.pinned (OpenSpec.ofChange fnSeparateIsConnectedComponentsSpec)

/-- ITS FALSE NEIGHBOUR: 'it returns false'. Refute it at one input. -/
def fnSeparateIsConnectedComponentsWrong : ChangeSpec := { name := "fnSeparateIsConnectedComponents", fn := fun _ => fun
  | [d1, d2, d3] => { results := [.lit (.bool false)], args := [d1, d2, d3] }
  | _ => none }
def FnSeparateIsConnectedComponentsWrongFalsely : Prop := fnSeparateIsConnectedComponentsRow.holds Try.pinned (OpenSpec.ofChange fnSeparateIsConnectedComponentsWrong)

/-- 'zzlaws_pkg_history_b1.FnSeparateEachPartIsOnePart': WHATEVER THE INPUT: true; the input reads as it did. -/
def fnSeparateEachPartIsOnePartSpec : ChangeSpec := { name := "fnSeparateEachPartIsOnePart", fn := fun _ => fun
  | [d1, d2, d3] => { results := [.lit (.bool true)], args := [d1, d2, d3] }
  | _ => none }
def fnSeparateEachPartIsOnePartRow : OpenClaim := { program := "qxb6603043a", sum := "e7b403526e14b7927107b84e7c3bf9b8ad32cb1fbaacec958f9f44de1782216b", func := "example.com/orderwise/orderwise/zzlaws_pkg_history_b1.FnSeparateEachPartIsOnePart", spec := "fnSeparateEachPartIsOnePart", unfollowed := true, recurses := true, apart := false }
def FnSeparateEachPartIsOnePartSaid : Prop := fnSeparateEachPartIsOnePartRow.holds Try.pinned (OpenSpec.ofChange fnSeparateEachPartIsOnePartSpec)

/-- ITS FALSE NEIGHBOUR: 'it returns false'. Refute it at one input. -/
def fnSeparateEachPartIsOnePartWrong : ChangeSpec := { name := "fnSeparateEachPartIsOnePart", fn := fun _ => fun
  | [d1, d2, d3] => { results := [.lit (.bool false)], args := [d1, d2, d3] }
  | _ => none }
def FnSeparateEachPartIsOnePartWrongFalsely : Prop := fnSeparateEachPartIsOnePartRow.holds Try.pinned (OpenSpec.ofChange fnSeparateEachPartIsOnePartWrong)

end Rows
end Go.Proofs.Qxb6603043a
