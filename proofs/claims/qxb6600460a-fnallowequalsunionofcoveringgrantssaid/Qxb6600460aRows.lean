/-
  No cell of these rows narrows 'for every input' (looked for: loops, veiled, ifaces, maps, wideKeys, modest, calm, conditions, laid).
  DERIVED. THE GIVEN ROWS OF THIS SEAT. 5 by the template 'for every input the law returns true; each argument reads behind the call as it read before'; 0 by the template 'total and deterministic' (their statements: Qxb6600460aTotals.lean).
  GIVEN WITH THE SEED: the statements are not yours to turn. If you find one false, say at which input.
  Laid BY PROGRAM, IN A SANDBOX (cutbox-rows.mjs): the forced cells as the released guide's own fill.sh prints them over the translation db2b6f69e79db034… (all of the seat's roots in one cut). By AI agents, Wed Nov 11 2026. No macro, syntax, notation, axiom, sorry.
-/
import Derived.Test.Qxb6600460aChecked
import GoSem.Claim
import GoSem.ClaimJoined
import GoSem.ClaimMapViews
import Derived.JoinedTies
import Derived.KernelRfl
namespace Go.Proofs.Qxb6600460a
/- THE CELL 'sum', in the pinned program and in every row, IS THE sha256 OF THE DUMP (.gsa) THAT Qxb6600460aProg.lean LOADS. Nothing in Lean hashes anything: it is a label: what it is worth is what the hold of that sum in a sandbox is worth. -/
noncomputable def Try.pinned : Pinned := { name := "qxb6600460a", sum := "db2b6f69e79db0347c7d708599283095afd4b04c26d8df91d3fe5c626a34bda2", checked := Try.checked }
namespace Rows
def none {H : Type} : Left H := { results := [], args := [] }

/-- 'zzlaws_internal_auth_b1.FnCoversReflexive': WHATEVER THE INPUT: true; the input reads as it did. -/
def fnCoversReflexiveSpec : ChangeSpec := { name := "fnCoversReflexive", fn := fun _ => fun
  | [d1, d2, d3] => { results := [.lit (.bool true)], args := [d1, d2, d3] }
  | _ => none }
def fnCoversReflexiveRow : OpenClaim := { program := "qxb6600460a", sum := "db2b6f69e79db0347c7d708599283095afd4b04c26d8df91d3fe5c626a34bda2", func := "example.com/olim/olim/zzlaws_internal_auth_b1.FnCoversReflexive", spec := "fnCoversReflexive", apart := false }
def FnCoversReflexiveSaid : Prop := fnCoversReflexiveRow.holds Try.pinned (OpenSpec.ofChange fnCoversReflexiveSpec)

/-- ITS FALSE NEIGHBOUR: 'it returns false'. Refute it at one input. -/
def fnCoversReflexiveWrong : ChangeSpec := { name := "fnCoversReflexive", fn := fun _ => fun
  | [d1, d2, d3] => { results := [.lit (.bool false)], args := [d1, d2, d3] }
  | _ => none }
def FnCoversReflexiveWrongFalsely : Prop := fnCoversReflexiveRow.holds Try.pinned (OpenSpec.ofChange fnCoversReflexiveWrong)

/-- 'zzlaws_internal_auth_b1.FnCoversTransitive': WHATEVER THE INPUT: true; the input reads as it did. -/
def fnCoversTransitiveSpec : ChangeSpec := { name := "fnCoversTransitive", fn := fun _ => fun
  | [d1, d2, d3, d4, d5, d6] => { results := [.lit (.bool true)], args := [d1, d2, d3, d4, d5, d6] }
  | _ => none }
def fnCoversTransitiveRow : OpenClaim := { program := "qxb6600460a", sum := "db2b6f69e79db0347c7d708599283095afd4b04c26d8df91d3fe5c626a34bda2", func := "example.com/olim/olim/zzlaws_internal_auth_b1.FnCoversTransitive", spec := "fnCoversTransitive", apart := false }
def FnCoversTransitiveSaid : Prop := fnCoversTransitiveRow.holds Try.pinned (OpenSpec.ofChange fnCoversTransitiveSpec)

/-- ITS FALSE NEIGHBOUR: 'it returns false'. Refute it at one input. -/
def fnCoversTransitiveWrong : ChangeSpec := { name := "fnCoversTransitive", fn := fun _ => fun
  | [d1, d2, d3, d4, d5, d6] => { results := [.lit (.bool false)], args := [d1, d2, d3, d4, d5, d6] }
  | _ => none }
def FnCoversTransitiveWrongFalsely : Prop := fnCoversTransitiveRow.holds Try.pinned (OpenSpec.ofChange fnCoversTransitiveWrong)

/-- 'zzlaws_internal_auth_b1.FnAllowEqualsUnionOfCoveringGrants': WHATEVER THE INPUT: true; the input reads as it did. -/
def fnAllowEqualsUnionOfCoveringGrantsSpec : ChangeSpec := { name := "fnAllowEqualsUnionOfCoveringGrants", fn := fun _ => fun
  | [d1, d2, d3, d4] => { results := [.lit (.bool true)], args := [d1, d2, d3, d4] }
  | _ => none }
def fnAllowEqualsUnionOfCoveringGrantsRow : OpenClaim := { program := "qxb6600460a", sum := "db2b6f69e79db0347c7d708599283095afd4b04c26d8df91d3fe5c626a34bda2", func := "example.com/olim/olim/zzlaws_internal_auth_b1.FnAllowEqualsUnionOfCoveringGrants", spec := "fnAllowEqualsUnionOfCoveringGrants", unfollowed := true, recurses := true, apart := false }
def FnAllowEqualsUnionOfCoveringGrantsSaid : Prop := fnAllowEqualsUnionOfCoveringGrantsRow.holds Try.pinned (OpenSpec.ofChange fnAllowEqualsUnionOfCoveringGrantsSpec)

/-- ITS FALSE NEIGHBOUR: 'it returns false'. Refute it at one input. -/
def fnAllowEqualsUnionOfCoveringGrantsWrong : ChangeSpec := { name := "fnAllowEqualsUnionOfCoveringGrants", fn := fun _ => fun
  | [d1, d2, d3, d4] => { results := [.lit (.bool false)], args := [d1, d2, d3, d4] }
  | _ => none }
def FnAllowEqualsUnionOfCoveringGrantsWrongFalsely : Prop := fnAllowEqualsUnionOfCoveringGrantsRow.holds Try.pinned (OpenSpec.ofChange fnAllowEqualsUnionOfCoveringGrantsWrong)

/-- 'zzlaws_internal_auth_b1.FnAllowMoreGrantsNeverRevokeAndOrderIsFree': WHATEVER THE INPUT: true; the input reads as it did. -/
def fnAllowMoreGrantsNeverRevokeAndOrderIsFreeSpec : ChangeSpec := { name := "fnAllowMoreGrantsNeverRevokeAndOrderIsFree", fn := fun _ => fun
  | [d1, d2, d3, d4, d5] => { results := [.lit (.bool true)], args := [d1, d2, d3, d4, d5] }
  | _ => none }
def fnAllowMoreGrantsNeverRevokeAndOrderIsFreeRow : OpenClaim := { program := "qxb6600460a", sum := "db2b6f69e79db0347c7d708599283095afd4b04c26d8df91d3fe5c626a34bda2", func := "example.com/olim/olim/zzlaws_internal_auth_b1.FnAllowMoreGrantsNeverRevokeAndOrderIsFree", spec := "fnAllowMoreGrantsNeverRevokeAndOrderIsFree", unfollowed := true, recurses := true, apart := false }
def FnAllowMoreGrantsNeverRevokeAndOrderIsFreeSaid : Prop := fnAllowMoreGrantsNeverRevokeAndOrderIsFreeRow.holds Try.pinned (OpenSpec.ofChange fnAllowMoreGrantsNeverRevokeAndOrderIsFreeSpec)

/-- ITS FALSE NEIGHBOUR: 'it returns false'. Refute it at one input. -/
def fnAllowMoreGrantsNeverRevokeAndOrderIsFreeWrong : ChangeSpec := { name := "fnAllowMoreGrantsNeverRevokeAndOrderIsFree", fn := fun _ => fun
  | [d1, d2, d3, d4, d5] => { results := [.lit (.bool false)], args := [d1, d2, d3, d4, d5] }
  | _ => none }
def FnAllowMoreGrantsNeverRevokeAndOrderIsFreeWrongFalsely : Prop := fnAllowMoreGrantsNeverRevokeAndOrderIsFreeRow.holds Try.pinned (OpenSpec.ofChange fnAllowMoreGrantsNeverRevokeAndOrderIsFreeWrong)

/-- 'zzlaws_internal_auth_b1.FnAllowIsConjunctionOverActions': WHATEVER THE INPUT: true; the input reads as it did. -/
def fnAllowIsConjunctionOverActionsSpec : ChangeSpec := { name := "fnAllowIsConjunctionOverActions", fn := fun _ => fun
  | [d1, d2, d3, d4] => { results := [.lit (.bool true)], args := [d1, d2, d3, d4] }
  | _ => none }
def fnAllowIsConjunctionOverActionsRow : OpenClaim := { program := "qxb6600460a", sum := "db2b6f69e79db0347c7d708599283095afd4b04c26d8df91d3fe5c626a34bda2", func := "example.com/olim/olim/zzlaws_internal_auth_b1.FnAllowIsConjunctionOverActions", spec := "fnAllowIsConjunctionOverActions", unfollowed := true, recurses := true, apart := false }
def FnAllowIsConjunctionOverActionsSaid : Prop := fnAllowIsConjunctionOverActionsRow.holds Try.pinned (OpenSpec.ofChange fnAllowIsConjunctionOverActionsSpec)

/-- ITS FALSE NEIGHBOUR: 'it returns false'. Refute it at one input. -/
def fnAllowIsConjunctionOverActionsWrong : ChangeSpec := { name := "fnAllowIsConjunctionOverActions", fn := fun _ => fun
  | [d1, d2, d3, d4] => { results := [.lit (.bool false)], args := [d1, d2, d3, d4] }
  | _ => none }
def FnAllowIsConjunctionOverActionsWrongFalsely : Prop := fnAllowIsConjunctionOverActionsRow.holds Try.pinned (OpenSpec.ofChange fnAllowIsConjunctionOverActionsWrong)

end Rows
end Go.Proofs.Qxb6600460a
