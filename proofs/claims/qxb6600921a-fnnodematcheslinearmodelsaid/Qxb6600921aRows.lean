/-
  No cell of these rows narrows 'for every input' (looked for: loops, veiled, ifaces, maps, wideKeys, modest, calm, conditions, laid).
  DERIVED. THE GIVEN ROWS OF THIS SEAT. 6 by the template 'for every input the law returns true; each argument reads behind the call as it read before'; 0 by the template 'total and deterministic' (their statements: Qxb6600921aTotals.lean).
  GIVEN WITH THE SEED: the statements are not yours to turn. If you find one false, say at which input.
  Laid BY PROGRAM, IN A SANDBOX (cutbox-rows.mjs): the forced cells as the released guide's own fill.sh prints them over the translation 2de3ed3249e15558… (all of the seat's roots in one cut). By AI agents, Wed Nov 11 2026. No macro, syntax, notation, axiom, sorry.
-/
import Derived.Test.Qxb6600921aChecked
import GoSem.Claim
import GoSem.ClaimJoined
import GoSem.ClaimMapViews
import Derived.JoinedTies
import Derived.KernelRfl
namespace Go.Proofs.Qxb6600921a
/- THE CELL 'sum', in the pinned program and in every row, IS THE sha256 OF THE DUMP (.gsa) THAT Qxb6600921aProg.lean LOADS. Nothing in Lean hashes anything: it is a label: what it is worth is what the hold of that sum in a sandbox is worth. -/
noncomputable def Try.pinned : Pinned := { name := "qxb6600921a", sum := "2de3ed3249e155581a9428c4ce734c95e08f08d124a8251b59d0773b597d7e7d", checked := Try.checked }
namespace Rows
def none {H : Type} : Left H := { results := [], args := [] }

/-- 'zzlaws_pkg_acl_b1.FnNodeMatchesLinearModel': WHATEVER THE INPUT: true; the input reads as it did. -/
def fnNodeMatchesLinearModelSpec : ChangeSpec := { name := "fnNodeMatchesLinearModel", fn := fun _ => fun
  | [d1, d2, d3] => { results := [.lit (.bool true)], args := [d1, d2, d3] }
  | _ => none }
def fnNodeMatchesLinearModelRow : OpenClaim := { program := "qxb6600921a", sum := "2de3ed3249e155581a9428c4ce734c95e08f08d124a8251b59d0773b597d7e7d", func := "example.com/falsebay/falsebay/zzlaws_pkg_acl_b1.FnNodeMatchesLinearModel", spec := "fnNodeMatchesLinearModel", apart := false }
def FnNodeMatchesLinearModelSaid : Prop := fnNodeMatchesLinearModelRow.holds Try.pinned (OpenSpec.ofChange fnNodeMatchesLinearModelSpec)

/-- ITS FALSE NEIGHBOUR: 'it returns false'. Refute it at one input. -/
def fnNodeMatchesLinearModelWrong : ChangeSpec := { name := "fnNodeMatchesLinearModel", fn := fun _ => fun
  | [d1, d2, d3] => { results := [.lit (.bool false)], args := [d1, d2, d3] }
  | _ => none }
def FnNodeMatchesLinearModelWrongFalsely : Prop := fnNodeMatchesLinearModelRow.holds Try.pinned (OpenSpec.ofChange fnNodeMatchesLinearModelWrong)

/-- 'zzlaws_pkg_acl_b1.FnNodeDepthIsLongestPath': WHATEVER THE INPUT: true; the input reads as it did. -/
def fnNodeDepthIsLongestPathSpec : ChangeSpec := { name := "fnNodeDepthIsLongestPath", fn := fun _ => fun
  | [d1, d2, d3] => { results := [.lit (.bool true)], args := [d1, d2, d3] }
  | _ => none }
def fnNodeDepthIsLongestPathRow : OpenClaim := { program := "qxb6600921a", sum := "2de3ed3249e155581a9428c4ce734c95e08f08d124a8251b59d0773b597d7e7d", func := "example.com/falsebay/falsebay/zzlaws_pkg_acl_b1.FnNodeDepthIsLongestPath", spec := "fnNodeDepthIsLongestPath", apart := false }
def FnNodeDepthIsLongestPathSaid : Prop := fnNodeDepthIsLongestPathRow.holds Try.pinned (OpenSpec.ofChange fnNodeDepthIsLongestPathSpec)

/-- ITS FALSE NEIGHBOUR: 'it returns false'. Refute it at one input. -/
def fnNodeDepthIsLongestPathWrong : ChangeSpec := { name := "fnNodeDepthIsLongestPath", fn := fun _ => fun
  | [d1, d2, d3] => { results := [.lit (.bool false)], args := [d1, d2, d3] }
  | _ => none }
def FnNodeDepthIsLongestPathWrongFalsely : Prop := fnNodeDepthIsLongestPathRow.holds Try.pinned (OpenSpec.ofChange fnNodeDepthIsLongestPathWrong)

/-- 'zzlaws_pkg_acl_b1.FnPairNumberMatchesFirstSeenModel': WHATEVER THE INPUT: true; the input reads as it did. -/
def fnPairNumberMatchesFirstSeenModelSpec : ChangeSpec := { name := "fnPairNumberMatchesFirstSeenModel", fn := fun _ => fun
  | [d1, d2] => { results := [.lit (.bool true)], args := [d1, d2] }
  | _ => none }
def fnPairNumberMatchesFirstSeenModelRow : OpenClaim := { program := "qxb6600921a", sum := "2de3ed3249e155581a9428c4ce734c95e08f08d124a8251b59d0773b597d7e7d", func := "example.com/falsebay/falsebay/zzlaws_pkg_acl_b1.FnPairNumberMatchesFirstSeenModel", spec := "fnPairNumberMatchesFirstSeenModel", apart := false }
def FnPairNumberMatchesFirstSeenModelSaid : Prop := fnPairNumberMatchesFirstSeenModelRow.holds Try.pinned (OpenSpec.ofChange fnPairNumberMatchesFirstSeenModelSpec)

/-- ITS FALSE NEIGHBOUR: 'it returns false'. Refute it at one input. -/
def fnPairNumberMatchesFirstSeenModelWrong : ChangeSpec := { name := "fnPairNumberMatchesFirstSeenModel", fn := fun _ => fun
  | [d1, d2] => { results := [.lit (.bool false)], args := [d1, d2] }
  | _ => none }
def FnPairNumberMatchesFirstSeenModelWrongFalsely : Prop := fnPairNumberMatchesFirstSeenModelRow.holds Try.pinned (OpenSpec.ofChange fnPairNumberMatchesFirstSeenModelWrong)

/-- 'zzlaws_pkg_acl_b1.FnBuilderNumberKeepsStatesInStep': WHATEVER THE INPUT: true; the input reads as it did. -/
def fnBuilderNumberKeepsStatesInStepSpec : ChangeSpec := { name := "fnBuilderNumberKeepsStatesInStep", fn := fun _ => fun
  | [d1, d2] => { results := [.lit (.bool true)], args := [d1, d2] }
  | _ => none }
def fnBuilderNumberKeepsStatesInStepRow : OpenClaim := { program := "qxb6600921a", sum := "2de3ed3249e155581a9428c4ce734c95e08f08d124a8251b59d0773b597d7e7d", func := "example.com/falsebay/falsebay/zzlaws_pkg_acl_b1.FnBuilderNumberKeepsStatesInStep", spec := "fnBuilderNumberKeepsStatesInStep", apart := false }
def FnBuilderNumberKeepsStatesInStepSaid : Prop := fnBuilderNumberKeepsStatesInStepRow.holds Try.pinned (OpenSpec.ofChange fnBuilderNumberKeepsStatesInStepSpec)

/-- ITS FALSE NEIGHBOUR: 'it returns false'. Refute it at one input. -/
def fnBuilderNumberKeepsStatesInStepWrong : ChangeSpec := { name := "fnBuilderNumberKeepsStatesInStep", fn := fun _ => fun
  | [d1, d2] => { results := [.lit (.bool false)], args := [d1, d2] }
  | _ => none }
def FnBuilderNumberKeepsStatesInStepWrongFalsely : Prop := fnBuilderNumberKeepsStatesInStepRow.holds Try.pinned (OpenSpec.ofChange fnBuilderNumberKeepsStatesInStepWrong)

/-- 'zzlaws_pkg_acl_b1.FnCountOnceMatchesSeenModel': WHATEVER THE INPUT: true; the input reads as it did. -/
def fnCountOnceMatchesSeenModelSpec : ChangeSpec := { name := "fnCountOnceMatchesSeenModel", fn := fun _ => fun
  | [d1, d2, d3] => { results := [.lit (.bool true)], args := [d1, d2, d3] }
  | _ => none }
def fnCountOnceMatchesSeenModelRow : OpenClaim := { program := "qxb6600921a", sum := "2de3ed3249e155581a9428c4ce734c95e08f08d124a8251b59d0773b597d7e7d", func := "example.com/falsebay/falsebay/zzlaws_pkg_acl_b1.FnCountOnceMatchesSeenModel", spec := "fnCountOnceMatchesSeenModel", unfollowed := true, recurses := true, apart := false }
def FnCountOnceMatchesSeenModelSaid : Prop := fnCountOnceMatchesSeenModelRow.holds Try.pinned (OpenSpec.ofChange fnCountOnceMatchesSeenModelSpec)

/-- ITS FALSE NEIGHBOUR: 'it returns false'. Refute it at one input. -/
def fnCountOnceMatchesSeenModelWrong : ChangeSpec := { name := "fnCountOnceMatchesSeenModel", fn := fun _ => fun
  | [d1, d2, d3] => { results := [.lit (.bool false)], args := [d1, d2, d3] }
  | _ => none }
def FnCountOnceMatchesSeenModelWrongFalsely : Prop := fnCountOnceMatchesSeenModelRow.holds Try.pinned (OpenSpec.ofChange fnCountOnceMatchesSeenModelWrong)

/-- 'zzlaws_pkg_acl_b1.FnCountOnceKeepsHalfFree': WHATEVER THE INPUT: true; the input reads as it did. -/
def fnCountOnceKeepsHalfFreeSpec : ChangeSpec := { name := "fnCountOnceKeepsHalfFree", fn := fun _ => fun
  | [d1, d2, d3] => { results := [.lit (.bool true)], args := [d1, d2, d3] }
  | _ => none }
def fnCountOnceKeepsHalfFreeRow : OpenClaim := { program := "qxb6600921a", sum := "2de3ed3249e155581a9428c4ce734c95e08f08d124a8251b59d0773b597d7e7d", func := "example.com/falsebay/falsebay/zzlaws_pkg_acl_b1.FnCountOnceKeepsHalfFree", spec := "fnCountOnceKeepsHalfFree", unfollowed := true, recurses := true, apart := false }
def FnCountOnceKeepsHalfFreeSaid : Prop := fnCountOnceKeepsHalfFreeRow.holds Try.pinned (OpenSpec.ofChange fnCountOnceKeepsHalfFreeSpec)

/-- ITS FALSE NEIGHBOUR: 'it returns false'. Refute it at one input. -/
def fnCountOnceKeepsHalfFreeWrong : ChangeSpec := { name := "fnCountOnceKeepsHalfFree", fn := fun _ => fun
  | [d1, d2, d3] => { results := [.lit (.bool false)], args := [d1, d2, d3] }
  | _ => none }
def FnCountOnceKeepsHalfFreeWrongFalsely : Prop := fnCountOnceKeepsHalfFreeRow.holds Try.pinned (OpenSpec.ofChange fnCountOnceKeepsHalfFreeWrong)

end Rows
end Go.Proofs.Qxb6600921a
