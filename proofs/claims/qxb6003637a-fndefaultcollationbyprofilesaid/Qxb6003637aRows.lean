/-
  No cell of these rows narrows 'for every input' (looked for: loops, veiled, ifaces, maps, wideKeys, modest, calm, conditions, laid).
  DERIVED. THE GIVEN ROWS OF THIS SEAT. 2 by the template 'for every input the law returns true; each argument reads behind the call as it read before'; 0 by the template 'total and deterministic' (their statements: Qxb6003637aTotals.lean).
  GIVEN WITH THE SEED: the statements are not yours to turn. If you find one false, say at which input.
  Laid BY PROGRAM, IN A SANDBOX (cutbox-rows.mjs): the forced cells as the released guide's own fill.sh prints them over the translation aa4160ba9e460bab… (all of the seat's roots in one cut). By AI agents, Wed Nov 11 2026. No macro, syntax, notation, axiom, sorry.
-/
import Derived.Test.Qxb6003637aChecked
import GoSem.Claim
import GoSem.ClaimJoined
import GoSem.ClaimMapViews
import Derived.JoinedTies
import Derived.KernelRfl
namespace Go.Proofs.Qxb6003637a
/- THE CELL 'sum', in the pinned program and in every row, IS THE sha256 OF THE DUMP (.gsa) THAT Qxb6003637aProg.lean LOADS. Nothing in Lean hashes anything: it is a label: what it is worth is what the hold of that sum in a sandbox is worth. -/
noncomputable def Try.pinned : Pinned := { name := "qxb6003637a", sum := "aa4160ba9e460babcb0210cafd34e7e8895148287f683ea79a35d922811087a3", checked := Try.checked }
namespace Rows
def none {H : Type} : Left H := { results := [], args := [] }

/-- 'zzlaws_pkg_engine_b1.FnOutcomeStringNamesApart': WHATEVER THE INPUT: true; the input reads as it did. -/
def fnOutcomeStringNamesApartSpec : ChangeSpec := { name := "fnOutcomeStringNamesApart", fn := fun _ => fun
  | [d1, d2] => { results := [.lit (.bool true)], args := [d1, d2] }
  | _ => none }
def fnOutcomeStringNamesApartRow : OpenClaim := { program := "qxb6003637a", sum := "aa4160ba9e460babcb0210cafd34e7e8895148287f683ea79a35d922811087a3", func := "example.com/gapwise/gapwise/zzlaws_pkg_engine_b1.FnOutcomeStringNamesApart", spec := "fnOutcomeStringNamesApart", apart := false }
def FnOutcomeStringNamesApartSaid : Prop := fnOutcomeStringNamesApartRow.holds Try.pinned (OpenSpec.ofChange fnOutcomeStringNamesApartSpec)

/-- ITS FALSE NEIGHBOUR: 'it returns false'. Refute it at one input. -/
def fnOutcomeStringNamesApartWrong : ChangeSpec := { name := "fnOutcomeStringNamesApart", fn := fun _ => fun
  | [d1, d2] => { results := [.lit (.bool false)], args := [d1, d2] }
  | _ => none }
def FnOutcomeStringNamesApartWrongFalsely : Prop := fnOutcomeStringNamesApartRow.holds Try.pinned (OpenSpec.ofChange fnOutcomeStringNamesApartWrong)

/-- 'zzlaws_pkg_engine_b1.FnDefaultCollationByProfile': WHATEVER THE INPUT: true; the input reads as it did. -/
def fnDefaultCollationByProfileSpec : ChangeSpec := { name := "fnDefaultCollationByProfile", fn := fun _ => fun
  | [d1, d2] => { results := [.lit (.bool true)], args := [d1, d2] }
  | _ => none }
def fnDefaultCollationByProfileRow : OpenClaim := { program := "qxb6003637a", sum := "aa4160ba9e460babcb0210cafd34e7e8895148287f683ea79a35d922811087a3", func := "example.com/gapwise/gapwise/zzlaws_pkg_engine_b1.FnDefaultCollationByProfile", spec := "fnDefaultCollationByProfile", apart := false }
def FnDefaultCollationByProfileSaid : Prop := fnDefaultCollationByProfileRow.holds Try.pinned (OpenSpec.ofChange fnDefaultCollationByProfileSpec)

/-- ITS FALSE NEIGHBOUR: 'it returns false'. Refute it at one input. -/
def fnDefaultCollationByProfileWrong : ChangeSpec := { name := "fnDefaultCollationByProfile", fn := fun _ => fun
  | [d1, d2] => { results := [.lit (.bool false)], args := [d1, d2] }
  | _ => none }
def FnDefaultCollationByProfileWrongFalsely : Prop := fnDefaultCollationByProfileRow.holds Try.pinned (OpenSpec.ofChange fnDefaultCollationByProfileWrong)

end Rows
end Go.Proofs.Qxb6003637a
