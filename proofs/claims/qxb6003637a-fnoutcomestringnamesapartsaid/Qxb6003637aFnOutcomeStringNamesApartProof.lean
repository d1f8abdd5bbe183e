import Derived.Test.Qxb6003637aRows
import Derived.Test.Qxb6003637aNames
import Derived.WalkKit
import Derived.ProofKit
import Derived.OpenShut
import Derived.ShutString
namespace Go.Proofs.Qxb6003637a.fnOutcomeStringNamesApart
open Go.ChangeShapes Go.WideShapes Go.ChangeAt Go.RowKit
open Go.ChangeMaps (open_string shut_string)
set_option linter.unusedVariables false      -- a walk need not use every 'w<i>' (that an integer argument fits its kind)

theorem own : ownKnob Try.prog.godebug = none := by kernel_rfl

set_option maxHeartbeats 1000000 in
theorem walk (a0 : Int) (a1 : Int) (w0 : (Lit.int .i64 a0).wf = true) (w1 : (Lit.int .i64 a1).wf = true) (w : World) :
    Calls Try.prog 3 #[.int .i64 a0, .int .i64 a1] w fun e w' => e = .returned (.bool true) ∧ Grown w w' := by
  have q0 := cl_lt a0
  have q1 := cl_lt a1
  have H0 := hid (known6 a0); have H1 := hid (known6 a1)
  clear w0 w1
  by_cases h : cl a0 = cl a1
  · have hbe : ((tbl (cl a0)).toList == (tbl (cl a1)).toList) = true := by rw [h]; exact beq_self_eq_true _
    by_cases hz : cl a0 = 0
    · have e0 : (cl a0 != 0) = false := by simp [hz]
      have e1 : (cl a1 != 0) = false := by simp [← h, hz]
      have F0 := hid (fits7 (cl a0) q0); have F1 := hid (fits7 (cl a1) q1)
      rw [e0] at H0 F0
      rw [e1] at H1 F1
      have S0 := hid (str5 a0); have S1 := hid (str5 a1)
      clear e0 e1 hz h q0 q1
      generalize tbl (cl a0) = x at *
      generalize tbl (cl a1) = y at *
      cases hab : (a0 == a1) with
      | true =>
        have hab := beq_iff_eq.1 hab
        subst hab
        go_enter Try.func3, Try.ntmps3
        go_wp2_with fail
        refine (S0.out _).mono ?_
        rintro e w1 ⟨rfl, rfl⟩
        go_wp2_with fail
        refine (S1.out _).mono ?_
        rintro e w1 ⟨rfl, rfl⟩
        go_wp2_with fail
        refine (H0.out _).mono ?_
        rintro e w1 ⟨rfl, rfl⟩
        go_wp2_with fail
        refine (H1.out _).mono ?_
        rintro e w1 ⟨rfl, rfl⟩
        go_wp2_with fail
        refine (F0.out _).mono ?_
        rintro e w1 ⟨rfl, rfl⟩
        go_wp2_with fail
        refine (F1.out _).mono ?_
        rintro e w1 ⟨rfl, rfl⟩
        go_wp2_with fail
        go_ret
        exact ⟨rfl, Grown.refl _⟩
      | false =>
        go_enter Try.func3, Try.ntmps3
        go_wp2_with fail
        refine (S0.out _).mono ?_
        rintro e w1 ⟨rfl, rfl⟩
        go_wp2_with fail
        refine (S1.out _).mono ?_
        rintro e w1 ⟨rfl, rfl⟩
        go_wp2_with fail
        refine (H0.out _).mono ?_
        rintro e w1 ⟨rfl, rfl⟩
        go_wp2_with fail
        refine (H1.out _).mono ?_
        rintro e w1 ⟨rfl, rfl⟩
        go_wp2_with fail
        refine (F0.out _).mono ?_
        rintro e w1 ⟨rfl, rfl⟩
        go_wp2_with fail
        refine (F1.out _).mono ?_
        rintro e w1 ⟨rfl, rfl⟩
        go_wp2_with fail
        go_ret
        exact ⟨rfl, Grown.refl _⟩
    · have hab := cl_inj h hz
      subst hab
      have e0 : (cl a0 != 0) = true := by simpa using hz
      have F0 := hid (fits7 (cl a0) q0); have F1 := F0; have H1 := H0
      rw [e0] at H0 F0 H1 F1
      have S0 := hid (str5 a0); have S1 := S0
      clear e0 hz h q0 q1
      generalize tbl (cl a0) = x at *
      go_enter Try.func3, Try.ntmps3
      go_wp2_with fail
      refine (S0.out _).mono ?_
      rintro e w1 ⟨rfl, rfl⟩
      go_wp2_with fail
      refine (S1.out _).mono ?_
      rintro e w1 ⟨rfl, rfl⟩
      go_wp2_with fail
      refine (H0.out _).mono ?_
      rintro e w1 ⟨rfl, rfl⟩
      go_wp2_with fail
      refine (H1.out _).mono ?_
      rintro e w1 ⟨rfl, rfl⟩
      go_wp2_with fail
      refine (F0.out _).mono ?_
      rintro e w1 ⟨rfl, rfl⟩
      go_wp2_with fail
      refine (F1.out _).mono ?_
      rintro e w1 ⟨rfl, rfl⟩
      go_wp2_with fail
      go_ret
      exact ⟨rfl, Grown.refl _⟩
  · have hbe : ((tbl (cl a0)).toList == (tbl (cl a1)).toList) = false := beq_eq_false_iff_ne.2 (tbl_inj _ q0 _ q1 h)
    have hab : (a0 == a1) = false := by
      apply beq_eq_false_iff_ne.2
      intro e
      exact h (by rw [e])
    have F0 := hid (fits7 (cl a0) q0); have F1 := hid (fits7 (cl a1) q1)
    have S0 := hid (str5 a0); have S1 := hid (str5 a1)
    have hor : ((cl a0 != 0) = true) ∨ ((cl a0 != 0) = false ∧ (cl a1 != 0) = true) := by
      by_cases hz : cl a0 = 0
      · exact .inr ⟨by simp [hz], by have : cl a1 ≠ 0 := fun e => h (by rw [hz, e])
                                     simpa using this⟩
      · exact .inl (by simpa using hz)
    clear h q0 q1
    generalize tbl (cl a0) = x at *
    generalize tbl (cl a1) = y at *
    rcases hor with e0 | ⟨e0, e1⟩
    · rw [e0] at H0 F0
      clear e0
      generalize hb1 : (cl a1 != 0) = b1 at *
      clear hb1
      cases b1
      · go_enter Try.func3, Try.ntmps3
        go_wp2_with fail
        refine (S0.out _).mono ?_
        rintro e w1 ⟨rfl, rfl⟩
        go_wp2_with fail
        refine (S1.out _).mono ?_
        rintro e w1 ⟨rfl, rfl⟩
        go_wp2_with fail
        refine (H0.out _).mono ?_
        rintro e w1 ⟨rfl, rfl⟩
        go_wp2_with fail
        refine (H1.out _).mono ?_
        rintro e w1 ⟨rfl, rfl⟩
        go_wp2_with fail
        refine (F0.out _).mono ?_
        rintro e w1 ⟨rfl, rfl⟩
        go_wp2_with fail
        refine (F1.out _).mono ?_
        rintro e w1 ⟨rfl, rfl⟩
        go_wp2_with fail
        go_ret
        exact ⟨rfl, Grown.refl _⟩
      · go_enter Try.func3, Try.ntmps3
        go_wp2_with fail
        refine (S0.out _).mono ?_
        rintro e w1 ⟨rfl, rfl⟩
        go_wp2_with fail
        refine (S1.out _).mono ?_
        rintro e w1 ⟨rfl, rfl⟩
        go_wp2_with fail
        refine (H0.out _).mono ?_
        rintro e w1 ⟨rfl, rfl⟩
        go_wp2_with fail
        refine (H1.out _).mono ?_
        rintro e w1 ⟨rfl, rfl⟩
        go_wp2_with fail
        refine (F0.out _).mono ?_
        rintro e w1 ⟨rfl, rfl⟩
        go_wp2_with fail
        refine (F1.out _).mono ?_
        rintro e w1 ⟨rfl, rfl⟩
        go_wp2_with fail
        go_ret
        exact ⟨rfl, Grown.refl _⟩
    · rw [e0] at H0 F0
      rw [e1] at H1 F1
      clear e0 e1
      go_enter Try.func3, Try.ntmps3
      go_wp2_with fail
      refine (S0.out _).mono ?_
      rintro e w1 ⟨rfl, rfl⟩
      go_wp2_with fail
      refine (S1.out _).mono ?_
      rintro e w1 ⟨rfl, rfl⟩
      go_wp2_with fail
      refine (H0.out _).mono ?_
      rintro e w1 ⟨rfl, rfl⟩
      go_wp2_with fail
      refine (H1.out _).mono ?_
      rintro e w1 ⟨rfl, rfl⟩
      go_wp2_with fail
      refine (F0.out _).mono ?_
      rintro e w1 ⟨rfl, rfl⟩
      go_wp2_with fail
      refine (F1.out _).mono ?_
      rintro e w1 ⟨rfl, rfl⟩
      go_wp2_with fail
      go_ret
      exact ⟨rfl, Grown.refl _⟩

/-! ### THE ROW's STEP: WRITTEN OUT: LEAVE IT -/
set_option maxRecDepth 100000 in
theorem lifted (os : Os) (started : os.Started) (H : Type) (enc : TypeId × Value → H) :
    ReturnsInHanded {} Try.checked os 3 .any (Rows.fnOutcomeStringNamesApartSpec.pre6 enc Try.prog Try.f3 Rows.fnOutcomeStringNamesApartRow.domain false) (Rows.fnOutcomeStringNamesApartSpec.post enc Try.prog Try.f3 false true false false) := by
  refine returnsInHanded_of_change (C := Try.checked) own started (by kernel_rfl) Try.func3
    (ChangeSpec.witness6 (enc := enc) (C := Try.checked) false ⟨#[], #[.int .i64 0, .int .i64 0], []⟩ 8 (by kernel_rfl) (by kernel_rfl) (by kernel_rfl) (by kernel_rfl)) ?_
  intro W base args ds gs before hval0 hW hcnd _
  have hval : ∀ (j : Nat) t v, Try.f3.params[j]? = some t → args[j]? = some v → Value.okWide Try.prog W .any base t v := hval0
  have hW' := hW
  obtain ⟨p, q, hA0, hV, rfl, hfz, hnd⟩ := hW
  have hA : DataW.TrodAll enc Try.prog W 0 (fun _ => true) true Try.f3.params.toList args.toList ds p := hA0
  rw [Try.params3] at hA hval
  obtain ⟨v0, vs0, d0, ds0, p0, q0, hargs, rfl, rfl, h0, r0⟩ := trodAll_cons hA
  obtain ⟨v1, vs1, d1, ds1, p1, q1, rfl, rfl, rfl, h1, r1⟩ := trodAll_cons r0
  obtain ⟨rfl, rfl, rfl⟩ := trodAll_nil r1
  obtain rfl : args = #[v0, v1] := by cases args; simp_all
  obtain ⟨rfl, rfl⟩ := trodVars_none hV
  obtain ⟨a0, rfl, rfl, rfl, w0⟩ := open_int Try.underlying3 (hval 0 3 v0 rfl rfl) h0
  obtain ⟨a1, rfl, rfl, rfl, w1⟩ := open_int Try.underlying3 (hval 1 3 v1 rfl rfl) h1
  clear hA0 hval0
  simp only [List.append_nil] at hW'
  refine (walk a0 a1 w0 w1 W).mono fun e W' ⟨he, hg⟩ => ?_
  subst he
  exact ⟨_, rfl, post_of_same (pa := []) (pv := []) hW' (fun _ _ _ => (trodAll_cons_mk (shut_bool Try.underlying4 _) trodAll_mk0)) (fun sp _ => (trodAll_cons_mk (shut_int Try.underlying3 w0) (trodAll_cons_mk (shut_int Try.underlying3 w1) trodAll_mk0))) (fun _ _ => rfl) rfl
    (hg.frame _) hg.2.1 (ok_one (by kernel_rfl) rfl (okWide_bool_mk Try.underlying4 _))⟩

theorem over : Rows.fnOutcomeStringNamesApartRow.holds Try.pinned (OpenSpec.ofChange Rows.fnOutcomeStringNamesApartSpec) :=
  OpenClaim.holds_of_wide 3 Try.f3 rfl rfl rfl rfl rfl rfl rfl ⟨rfl, rfl, rfl, rfl, rfl⟩ rfl rfl rfl rfl rfl (by kernel_rfl) Try.func3 (by kernel_rfl)
    (of_decide_eq_true (by kernel_rfl)) (by unfold Func.isWrapper; first | (rw [if_pos (by decide +kernel)]; kernel_rfl) | (rw [if_neg (by decide +kernel)]; exact ⟨rfl, rfl⟩))
    (fun os started H enc _ => lifted os started H enc)

/-- ████ THE STATEMENT ████ -/
theorem proved : Rows.FnOutcomeStringNamesApartSaid :=
  over
#print axioms proved
end Go.Proofs.Qxb6003637a.fnOutcomeStringNamesApart
