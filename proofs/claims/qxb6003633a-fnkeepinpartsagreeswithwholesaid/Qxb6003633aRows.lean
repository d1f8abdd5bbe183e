/-
  No cell of these rows narrows 'for every input' (looked for: loops, veiled, ifaces, maps, wideKeys, modest, calm, conditions, laid).
  DERIVED. THE GIVEN ROWS OF THIS SEAT. 6 by the template 'for every input the law returns true; each argument reads behind the call as it read before'; 0 by the template 'total and deterministic' (their statements: Qxb6003633aTotals.lean).
  GIVEN WITH THE SEED: the statements are not yours to turn. If you find one false, say at which input.
  Laid BY PROGRAM, IN A SANDBOX (cutbox-rows.mjs): the forced cells as the released guide's own fill.sh prints them over the translation 71c5365c44296264… (all of the seat's roots in one cut). By AI agents, Wed Nov 11 2026. No macro, syntax, notation, axiom, sorry.
-/
import Derived.Test.Qxb6003633aChecked
import GoSem.Claim
import GoSem.ClaimJoined
import GoSem.ClaimMapViews
import Derived.JoinedTies
import Derived.KernelRfl
namespace Go.Proofs.Qxb6003633a
/- THE CELL 'sum', in the pinned program and in every row, IS THE sha256 OF THE DUMP (.gsa) THAT Qxb6003633aProg.lean LOADS. Nothing in Lean hashes anything: it is a label: what it is worth is what the hold of that sum in a sandbox is worth. -/
noncomputable def Try.pinned : Pinned := { name := "qxb6003633a", sum := "71c5365c4429626401bd4479097dad18a07b7f7c4c2d9a29fd74c4378760ba5a", checked := Try.checked }
namespace Rows
def none {H : Type} : Left H := { results := [], args := [] }

/-- 'zzlaws_pkg_records_b1.FnRecordsEndIsLastEvenBreak': WHATEVER THE INPUT: true; the input reads as it did. -/
def fnRecordsEndIsLastEvenBreakSpec : ChangeSpec := { name := "fnRecordsEndIsLastEvenBreak", fn := fun _ => fun
  | [d] => { results := [.lit (.bool true)], args := [d] }
  | _ => none }
def fnRecordsEndIsLastEvenBreakRow : OpenClaim := { program := "qxb6003633a", sum := "71c5365c4429626401bd4479097dad18a07b7f7c4c2d9a29fd74c4378760ba5a", func := "example.com/vestwright/vestwright/zzlaws_pkg_records_b1.FnRecordsEndIsLastEvenBreak", spec := "fnRecordsEndIsLastEvenBreak", inPlace := ["internal/bytealg.Count", "internal/bytealg.IndexByte", "internal/bytealg.Index"], named := ["internal/bytealg.MaxLen"], apart := false }
def FnRecordsEndIsLastEvenBreakSaid : Prop := fnRecordsEndIsLastEvenBreakRow.holds Try.pinned (OpenSpec.ofChange fnRecordsEndIsLastEvenBreakSpec)

/-- ITS FALSE NEIGHBOUR: 'it returns false'. Refute it at one input. -/
def fnRecordsEndIsLastEvenBreakWrong : ChangeSpec := { name := "fnRecordsEndIsLastEvenBreak", fn := fun _ => fun
  | [d] => { results := [.lit (.bool false)], args := [d] }
  | _ => none }
def FnRecordsEndIsLastEvenBreakWrongFalsely : Prop := fnRecordsEndIsLastEvenBreakRow.holds Try.pinned (OpenSpec.ofChange fnRecordsEndIsLastEvenBreakWrong)

/-- 'zzlaws_pkg_records_b1.FnRecordsEndPrefixAndBreak': WHATEVER THE INPUT: true; the input reads as it did. -/
def fnRecordsEndPrefixAndBreakSpec : ChangeSpec := { name := "fnRecordsEndPrefixAndBreak", fn := fun _ => fun
  | [d1, d2] => { results := [.lit (.bool true)], args := [d1, d2] }
  | _ => none }
def fnRecordsEndPrefixAndBreakRow : OpenClaim := { program := "qxb6003633a", sum := "71c5365c4429626401bd4479097dad18a07b7f7c4c2d9a29fd74c4378760ba5a", func := "example.com/vestwright/vestwright/zzlaws_pkg_records_b1.FnRecordsEndPrefixAndBreak", spec := "fnRecordsEndPrefixAndBreak", inPlace := ["internal/bytealg.Count", "internal/bytealg.IndexByte", "internal/bytealg.Index"], named := ["internal/bytealg.MaxLen"], apart := false }
def FnRecordsEndPrefixAndBreakSaid : Prop := fnRecordsEndPrefixAndBreakRow.holds Try.pinned (OpenSpec.ofChange fnRecordsEndPrefixAndBreakSpec)

/-- ITS FALSE NEIGHBOUR: 'it returns false'. Refute it at one input. -/
def fnRecordsEndPrefixAndBreakWrong : ChangeSpec := { name := "fnRecordsEndPrefixAndBreak", fn := fun _ => fun
  | [d1, d2] => { results := [.lit (.bool false)], args := [d1, d2] }
  | _ => none }
def FnRecordsEndPrefixAndBreakWrongFalsely : Prop := fnRecordsEndPrefixAndBreakRow.holds Try.pinned (OpenSpec.ofChange fnRecordsEndPrefixAndBreakWrong)

/-- 'zzlaws_pkg_records_b1.FnBeforeIsStableFilter': WHATEVER THE INPUT: true; the input reads as it did. -/
def fnBeforeIsStableFilterSpec : ChangeSpec := { name := "fnBeforeIsStableFilter", fn := fun _ => fun
  | [d1, d2] => { results := [.lit (.bool true)], args := [d1, d2] }
  | _ => none }
def fnBeforeIsStableFilterRow : OpenClaim := { program := "qxb6003633a", sum := "71c5365c4429626401bd4479097dad18a07b7f7c4c2d9a29fd74c4378760ba5a", func := "example.com/vestwright/vestwright/zzlaws_pkg_records_b1.FnBeforeIsStableFilter", spec := "fnBeforeIsStableFilter", apart := false }
def FnBeforeIsStableFilterSaid : Prop := fnBeforeIsStableFilterRow.holds Try.pinned (OpenSpec.ofChange fnBeforeIsStableFilterSpec)

/-- ITS FALSE NEIGHBOUR: 'it returns false'. Refute it at one input. -/
def fnBeforeIsStableFilterWrong : ChangeSpec := { name := "fnBeforeIsStableFilter", fn := fun _ => fun
  | [d1, d2] => { results := [.lit (.bool false)], args := [d1, d2] }
  | _ => none }
def FnBeforeIsStableFilterWrongFalsely : Prop := fnBeforeIsStableFilterRow.holds Try.pinned (OpenSpec.ofChange fnBeforeIsStableFilterWrong)

/-- 'zzlaws_pkg_records_b1.FnBeforeTwiceIsBeforeEarlier': WHATEVER THE INPUT: true; the input reads as it did. -/
def fnBeforeTwiceIsBeforeEarlierSpec : ChangeSpec := { name := "fnBeforeTwiceIsBeforeEarlier", fn := fun _ => fun
  | [d1, d2, d3] => { results := [.lit (.bool true)], args := [d1, d2, d3] }
  | _ => none }
def fnBeforeTwiceIsBeforeEarlierRow : OpenClaim := { program := "qxb6003633a", sum := "71c5365c4429626401bd4479097dad18a07b7f7c4c2d9a29fd74c4378760ba5a", func := "example.com/vestwright/vestwright/zzlaws_pkg_records_b1.FnBeforeTwiceIsBeforeEarlier", spec := "fnBeforeTwiceIsBeforeEarlier", apart := false }
def FnBeforeTwiceIsBeforeEarlierSaid : Prop := fnBeforeTwiceIsBeforeEarlierRow.holds Try.pinned (OpenSpec.ofChange fnBeforeTwiceIsBeforeEarlierSpec)

/-- ITS FALSE NEIGHBOUR: 'it returns false'. Refute it at one input. -/
def fnBeforeTwiceIsBeforeEarlierWrong : ChangeSpec := { name := "fnBeforeTwiceIsBeforeEarlier", fn := fun _ => fun
  | [d1, d2, d3] => { results := [.lit (.bool false)], args := [d1, d2, d3] }
  | _ => none }
def FnBeforeTwiceIsBeforeEarlierWrongFalsely : Prop := fnBeforeTwiceIsBeforeEarlierRow.holds Try.pinned (OpenSpec.ofChange fnBeforeTwiceIsBeforeEarlierWrong)

/-- 'zzlaws_pkg_records_b1.FnKeepFilesRowsByMember': WHATEVER THE INPUT: true; the input reads as it did. -/
def fnKeepFilesRowsByMemberSpec : ChangeSpec := { name := "fnKeepFilesRowsByMember", fn := fun _ => fun
  | [d1, d2, d3, d4, d5, d6] => { results := [.lit (.bool true)], args := [d1, d2, d3, d4, d5, d6] }
  | _ => none }
def fnKeepFilesRowsByMemberRow : OpenClaim := { program := "qxb6003633a", sum := "71c5365c4429626401bd4479097dad18a07b7f7c4c2d9a29fd74c4378760ba5a", func := "example.com/vestwright/vestwright/zzlaws_pkg_records_b1.FnKeepFilesRowsByMember", spec := "fnKeepFilesRowsByMember", apart := false }
def FnKeepFilesRowsByMemberSaid : Prop := fnKeepFilesRowsByMemberRow.holds Try.pinned (OpenSpec.ofChange fnKeepFilesRowsByMemberSpec)

/-- ITS FALSE NEIGHBOUR: 'it returns false'. Refute it at one input. -/
def fnKeepFilesRowsByMemberWrong : ChangeSpec := { name := "fnKeepFilesRowsByMember", fn := fun _ => fun
  | [d1, d2, d3, d4, d5, d6] => { results := [.lit (.bool false)], args := [d1, d2, d3, d4, d5, d6] }
  | _ => none }
def FnKeepFilesRowsByMemberWrongFalsely : Prop := fnKeepFilesRowsByMemberRow.holds Try.pinned (OpenSpec.ofChange fnKeepFilesRowsByMemberWrong)

/-- 'zzlaws_pkg_records_b1.FnKeepInPartsAgreesWithWhole': WHATEVER THE INPUT: true; the input reads as it did. -/
def fnKeepInPartsAgreesWithWholeSpec : ChangeSpec := { name := "fnKeepInPartsAgreesWithWhole", fn := fun _ => fun
  | [d1, d2, d3, d4, d5, d6, d7] => { results := [.lit (.bool true)], args := [d1, d2, d3, d4, d5, d6, d7] }
  | _ => none }
def fnKeepInPartsAgreesWithWholeRow : OpenClaim := { program := "qxb6003633a", sum := "71c5365c4429626401bd4479097dad18a07b7f7c4c2d9a29fd74c4378760ba5a", func := "example.com/vestwright/vestwright/zzlaws_pkg_records_b1.FnKeepInPartsAgreesWithWhole", spec := "fnKeepInPartsAgreesWithWhole", apart := false }
def FnKeepInPartsAgreesWithWholeSaid : Prop := fnKeepInPartsAgreesWithWholeRow.holds Try.pinned (OpenSpec.ofChange fnKeepInPartsAgreesWithWholeSpec)

/-- ITS FALSE NEIGHBOUR: 'it returns false'. Refute it at one input. -/
def fnKeepInPartsAgreesWithWholeWrong : ChangeSpec := { name := "fnKeepInPartsAgreesWithWhole", fn := fun _ => fun
  | [d1, d2, d3, d4, d5, d6, d7] => { results := [.lit (.bool false)], args := [d1, d2, d3, d4, d5, d6, d7] }
  | _ => none }
def FnKeepInPartsAgreesWithWholeWrongFalsely : Prop := fnKeepInPartsAgreesWithWholeRow.holds Try.pinned (OpenSpec.ofChange fnKeepInPartsAgreesWithWholeWrong)

end Rows
end Go.Proofs.Qxb6003633a
