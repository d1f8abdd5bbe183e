import Derived.Test.Qxb6003660aRows
import Derived.Test.Qxb6003660aAgreeIn
import Derived.WalkKit
import Derived.ProofKit
import Derived.OpenShut
import Derived.ShutString
import Derived.ChangeOld
import Derived.Below
namespace Go.Proofs.Qxb6003660a.fnInZoneAgreesWithNameKeyPrefix
open Go.ChangeShapes Go.WideShapes Go.ChangeAt Go.RowKit
open Go.ChangeMaps (open_string shut_string)
set_option linter.unusedVariables false

theorem own : ownKnob Try.prog.godebug = none := by kernel_rfl

/-! ### STEP 1: THE WALK -/
set_option maxHeartbeats 1000000 in
theorem walk (a0 : ByteArray) (a1 : ByteArray) (w0 : a0.size ≤ maxLen) (w1 : a1.size ≤ maxLen) (w : World) :
    Calls Try.prog 5 #[.string a0, .string a1] w fun e w' => e = .returned (.bool true) ∧ Below w.heap.size w w' := by
  by_cases ht : a0.size + a1.size ≤ 1048576
  rotate_left
  · go_enter Try.func5, Try.ntmps5
    go_wp2_with fail
    refine (bytes2_no a0 a1 w (by omega) w0 w1).mono ?_
    rintro e w' ⟨rfl, rfl⟩
    go_wp2_with fail
    go_ret
    exact ⟨rfl, Below.refl _ _⟩
  clear w0 w1
  have d0 : decide ((1048576 : Int) < (a0.size : Int)) = false := by simp; omega
  have d1 : decide ((1048576 : Int) < (a1.size : Int)) = false := by simp; omega
  have d3 : decide ((1048576 : Int) < (a0.size : Int) + (a1.size : Int)) = false := by simp; omega
  cases hp : vName a0.data.toList with
  | false =>
    have HP := (show Hid _ from hp); clear hp
    go_enter Try.func5, Try.ntmps5
    go_wp2_with fail
    refine (bytes2_yes a0 a1 w ht).mono ?_
    rintro e w' ⟨rfl, rfl⟩
    go_wp2_with fail
    refine (vname_b a0 _ (by omega) _ HP.out).mono ?_
    rintro e w' ⟨rfl, rfl⟩
    go_wp2_with fail
    go_ret
    exact ⟨rfl, Below.refl _ _⟩
  | true =>
    have HP := (show Hid _ from hp); clear hp
    cases hn : vName a1.data.toList with
    | false =>
      have HN := (show Hid _ from hn); clear hn
      go_enter Try.func5, Try.ntmps5
      go_wp2_with fail
      refine (bytes2_yes a0 a1 w ht).mono ?_
      rintro e w' ⟨rfl, rfl⟩
      go_wp2_with fail
      refine (vname_b a0 _ (by omega) _ HP.out).mono ?_
      rintro e w' ⟨rfl, rfl⟩
      go_wp2_with fail
      refine (vname_b a1 _ (by omega) _ HN.out).mono ?_
      rintro e w' ⟨rfl, rfl⟩
      go_wp2_with fail
      go_ret
      exact ⟨rfl, Below.refl _ _⟩
    | true =>
      obtain ⟨h1, ls, gl, hls⟩ := vName_labels _ HP.out
      obtain ⟨h2, ms, gm, hms⟩ := vName_labels _ hn
      exact agree_in a0 a1 ls ms w ht HP.out hn hls hms gl gm (by rw [← len_data]; exact h1) (by rw [← len_data]; exact h2)

/-! ### THE ROW's STEP: WRITTEN OUT: LEAVE IT -/
set_option maxRecDepth 100000 in
theorem lifted (os : Os) (started : os.Started) (H : Type) (enc : TypeId × Value → H) :
    ReturnsInHanded {} Try.checked os 5 .any (Rows.fnInZoneAgreesWithNameKeyPrefixSpec.pre6 enc Try.prog Try.f5 Rows.fnInZoneAgreesWithNameKeyPrefixRow.domain false) (Rows.fnInZoneAgreesWithNameKeyPrefixSpec.post enc Try.prog Try.f5 false true false false) := by
  refine returnsInHanded_of_change (C := Try.checked) own started (by kernel_rfl) Try.func5
    (ChangeSpec.witness6 (enc := enc) (C := Try.checked) false ⟨#[], #[.string ByteArray.empty, .string ByteArray.empty], []⟩ 8 (by kernel_rfl) (by kernel_rfl) (by kernel_rfl) (by kernel_rfl)) ?_
  intro W base args ds gs before hval0 hW hcnd _
  have hval : ∀ (j : Nat) t v, Try.f5.params[j]? = some t → args[j]? = some v → Value.okWide Try.prog W .any base t v := hval0
  have hW' := hW
  obtain ⟨p, q, hA0, hV, rfl, hfz, hnd⟩ := hW
  have hA : DataW.TrodAll enc Try.prog W 0 (fun _ => true) true Try.f5.params.toList args.toList ds p := hA0
  rw [Try.params5] at hA hval
  obtain ⟨v0, vs0, d0, ds0, p0, q0, hargs, rfl, rfl, h0, r0⟩ := trodAll_cons hA
  obtain ⟨v1, vs1, d1, ds1, p1, q1, rfl, rfl, rfl, h1, r1⟩ := trodAll_cons r0
  obtain ⟨rfl, rfl, rfl⟩ := trodAll_nil r1
  obtain rfl : args = #[v0, v1] := by cases args; simp_all
  obtain ⟨rfl, rfl⟩ := trodVars_none hV
  obtain ⟨a0, rfl, rfl, rfl, w0⟩ := open_string Try.underlying9 (hval 0 9 v0 rfl rfl) h0
  obtain ⟨a1, rfl, rfl, rfl, w1⟩ := open_string Try.underlying9 (hval 1 9 v1 rfl rfl) h1
  clear hA0 hval0
  simp only [List.append_nil] at hW'
  refine (walk a0 a1 w0 w1 W).mono fun e W' ⟨he, hg⟩ => ?_
  subst he
  exact ⟨_, rfl, _, _, _, [], _, [], hW', trodAll_mk1 (shut_bool Try.underlying4 _), (trodAll_cons_mk (shut_string Try.underlying9 w0) (trodAll_cons_mk (shut_string Try.underlying9 w1) trodAll_mk0)), rfl, hg.frame _, fun h => by cases h⟩

theorem over : Rows.fnInZoneAgreesWithNameKeyPrefixRow.holds Try.pinned (OpenSpec.ofChange Rows.fnInZoneAgreesWithNameKeyPrefixSpec) :=
  OpenClaim.holds_of_wide 5 Try.f5 rfl rfl rfl rfl rfl rfl rfl ⟨rfl, rfl, rfl, rfl, rfl⟩ rfl rfl rfl rfl rfl (by kernel_rfl) Try.func5 (by kernel_rfl)
    (of_decide_eq_true (by kernel_rfl)) (by unfold Func.isWrapper; first | (rw [if_pos (by decide +kernel)]; kernel_rfl) | (rw [if_neg (by decide +kernel)]; exact ⟨rfl, rfl⟩))
    (fun os started H enc _ => lifted os started H enc)

/-- ████ THE STATEMENT ████ -/
theorem proved : Rows.FnInZoneAgreesWithNameKeyPrefixSaid :=
  over
#print axioms proved
end Go.Proofs.Qxb6003660a.fnInZoneAgreesWithNameKeyPrefix
