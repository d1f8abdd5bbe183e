import Derived.Test.Qxb6003637aRows
import Derived.Test.Qxb6003637aColl
import Derived.WalkKit
import Derived.ProofKit
import Derived.OpenShut
import Derived.ShutString
namespace Go.Proofs.Qxb6003637a.fnDefaultCollationByProfile
open Go.ChangeShapes Go.WideShapes Go.ChangeAt Go.RowKit
open Go.ChangeMaps (open_string shut_string)
set_option linter.unusedVariables false      -- a walk need not use every 'w<i>' (that an integer argument fits its kind)

theorem own : ownKnob Try.prog.godebug = none := by kernel_rfl

theorem grown_drewN (w : World) (n : Nat) : Grown w (w.drewN n) := Grown.refl w

set_option maxHeartbeats 1000000 in
/-- charset "" or "utf8mb4" -/
theorem law_m (p : Int) (s x y d : ByteArray) (w : World) (hs : s.size ≤ 65536)
    (hm : (s.toList == []) = true ∨ ((s.toList == []) = false ∧ (s.toList == [117, 116, 102, 56, 109, 98, 52]) = true))
    (hd : ((p == 0) = true ∧ d = x) ∨ ((p == 0) = false ∧ d = y))
    (D : ∀ w, Calls Try.prog 9 #[.int .i64 p, .string s] w fun e w' => e = .returned (.string d) ∧ w' = w)
    (X : ∀ w, Calls Try.prog 9 #[.int .i64 0, .string s] w fun e w' => e = .returned (.string x) ∧ w' = w)
    (Y : ∀ w, Calls Try.prog 9 #[.int .i64 1, .string s] w fun e w' => e = .returned (.string y) ∧ w' = w)
    (hxy : (x.toList == y.toList) = false) (hx : (x.toList == [117, 116, 102, 56, 109, 98, 52, 95, 48, 57, 48, 48, 95, 97, 105, 95, 99, 105]) = true) (hy : (y.toList == [117, 116, 102, 56, 109, 98, 52, 95, 48, 57, 48, 48, 95, 97, 105, 95, 99, 105]) = false) (hy0 : (y.toList == []) = false) :
    Calls Try.prog 4 #[.int .i64 p, .string s] w fun e w' => e = .returned (.bool true) ∧ Grown w w' := by
  have HD := hid D; have HX := hid X; have HY := hid Y
  clear D X Y
  rcases hd with ⟨hp, rfl⟩ | ⟨hp, rfl⟩
  · rcases hm with hm | ⟨hm, hu⟩
    · go_enter Try.func4, Try.ntmps4
      go_wp2_with fail
      refine (bytes8_yes _ _ _ (by omega)).mono ?_
      rintro e w1 ⟨rfl, rfl⟩
      go_wp2_with fail
      refine (HD.out _).mono ?_
      rintro e w1 ⟨rfl, rfl⟩
      go_wp2_with fail
      refine (HX.out _).mono ?_
      rintro e w1 ⟨rfl, rfl⟩
      go_wp2_with fail
      refine (HY.out _).mono ?_
      rintro e w1 ⟨rfl, rfl⟩
      go_wp2
      go_ret
      exact ⟨rfl, Grown.refl _⟩
    · go_enter Try.func4, Try.ntmps4
      go_wp2_with fail
      refine (bytes8_yes _ _ _ (by omega)).mono ?_
      rintro e w1 ⟨rfl, rfl⟩
      go_wp2_with fail
      refine (HD.out _).mono ?_
      rintro e w1 ⟨rfl, rfl⟩
      go_wp2_with fail
      refine (HX.out _).mono ?_
      rintro e w1 ⟨rfl, rfl⟩
      go_wp2_with fail
      refine (HY.out _).mono ?_
      rintro e w1 ⟨rfl, rfl⟩
      go_wp2
      go_ret
      exact ⟨rfl, Grown.refl _⟩
  · rcases hm with hm | ⟨hm, hu⟩
    · go_enter Try.func4, Try.ntmps4
      go_wp2_with fail
      refine (bytes8_yes _ _ _ (by omega)).mono ?_
      rintro e w1 ⟨rfl, rfl⟩
      go_wp2_with fail
      refine (HD.out _).mono ?_
      rintro e w1 ⟨rfl, rfl⟩
      go_wp2_with fail
      refine (HX.out _).mono ?_
      rintro e w1 ⟨rfl, rfl⟩
      go_wp2_with fail
      refine (HY.out _).mono ?_
      rintro e w1 ⟨rfl, rfl⟩
      go_wp2
      go_ret
      exact ⟨rfl, Grown.refl _⟩
    · go_enter Try.func4, Try.ntmps4
      go_wp2_with fail
      refine (bytes8_yes _ _ _ (by omega)).mono ?_
      rintro e w1 ⟨rfl, rfl⟩
      go_wp2_with fail
      refine (HD.out _).mono ?_
      rintro e w1 ⟨rfl, rfl⟩
      go_wp2_with fail
      refine (HX.out _).mono ?_
      rintro e w1 ⟨rfl, rfl⟩
      go_wp2_with fail
      refine (HY.out _).mono ?_
      rintro e w1 ⟨rfl, rfl⟩
      go_wp2
      go_ret
      exact ⟨rfl, Grown.refl _⟩

set_option maxHeartbeats 1000000 in
/-- any other charset -/
theorem law_n (p : Int) (s x : ByteArray) (w : World) (hs : s.size ≤ 65536) (h1 : (s.toList == []) = false) (h2 : (s.toList == [117, 116, 102, 56, 109, 98, 52]) = false)
    (D : ∀ p w, Calls Try.prog 9 #[.int .i64 p, .string s] w fun e w' => e = .returned (.string x) ∧ w' = w)
    (S : ∀ w, Calls Try.prog 10 #[.string x, .string s] w fun e w' => e = .returned (.bool true) ∧ ∃ n, w' = w.drewN n)
    (hx : (x.toList == [117, 116, 102, 56, 109, 98, 52, 95, 48, 57, 48, 48, 95, 97, 105, 95, 99, 105]) = false) (hl : s.size < x.size) (hl2 : x.size ≤ 1048576) :
    Calls Try.prog 4 #[.int .i64 p, .string s] w fun e w' => e = .returned (.bool true) ∧ Grown w w' := by
  have HD := hid D; have HS := hid S
  have hg : decide (s.size < x.size) = true := by simp; omega
  clear D S
  cases hp : (p == 0) with
  | true =>
    go_enter Try.func4, Try.ntmps4
    go_wp2_with fail
    refine (bytes8_yes _ _ _ (by omega)).mono ?_
    rintro e w1 ⟨rfl, rfl⟩
    go_wp2_with fail
    refine (HD.out _ _).mono ?_
    rintro e w1 ⟨rfl, rfl⟩
    go_wp2_with fail
    refine (HD.out _ _).mono ?_
    rintro e w1 ⟨rfl, rfl⟩
    go_wp2_with fail
    refine (HD.out _ _).mono ?_
    rintro e w1 ⟨rfl, rfl⟩
    go_wp2_with fail
    refine (HS.out _).mono ?_
    rintro e w2 ⟨rfl, n, rfl⟩
    go_wp2
    go_ret
    exact ⟨rfl, grown_drewN _ _⟩
  | false =>
    go_enter Try.func4, Try.ntmps4
    go_wp2_with fail
    refine (bytes8_yes _ _ _ (by omega)).mono ?_
    rintro e w1 ⟨rfl, rfl⟩
    go_wp2_with fail
    refine (HD.out _ _).mono ?_
    rintro e w1 ⟨rfl, rfl⟩
    go_wp2_with fail
    refine (HD.out _ _).mono ?_
    rintro e w1 ⟨rfl, rfl⟩
    go_wp2_with fail
    refine (HD.out _ _).mono ?_
    rintro e w1 ⟨rfl, rfl⟩
    go_wp2_with fail
    refine (HS.out _).mono ?_
    rintro e w2 ⟨rfl, n, rfl⟩
    go_wp2
    go_ret
    exact ⟨rfl, grown_drewN _ _⟩

set_option maxHeartbeats 1000000 in
theorem walk (a0 : Int) (a1 : ByteArray) (w0 : (Lit.int .i64 a0).wf = true) (w1 : a1.size ≤ maxLen) (w : World) :
    Calls Try.prog 4 #[.int .i64 a0, .string a1] w fun e w' => e = .returned (.bool true) ∧ Grown w w' := by
  clear w0
  unfold maxLen at w1
  by_cases hb : 1048576 < a1.size
  · go_enter Try.func4, Try.ntmps4
    go_wp2_with fail
    refine (bytes8_no _ _ _ hb (by omega)).mono ?_
    rintro e w1 ⟨rfl, rfl⟩
    go_wp2_with fail
    go_ret
    exact ⟨rfl, Grown.refl _⟩
  by_cases hc : 65536 < a1.size
  · go_enter Try.func4, Try.ntmps4
    go_wp2_with fail
    refine (bytes8_yes _ _ _ (by omega)).mono ?_
    rintro e w1 ⟨rfl, rfl⟩
    go_wp2
    go_ret
    exact ⟨rfl, Grown.refl _⟩
  have hs : a1.size ≤ 65536 := by omega
  have hD : ((a0 == 0) = true) ∨ ((a0 == 0) = false) := by cases (a0 == 0) <;> simp
  by_cases he : a1 = emp
  · subst he
    have hm : (emp.toList == []) = true := by rw [ByteArray.toList_eq]; rfl
    rcases hD with hp | hp
    · have e0 : a0 = 0 := beq_iff_eq.1 hp
      subst e0
      exact law_m 0 emp nmC k1 nmC w hs (.inl hm) (.inl ⟨hp, rfl⟩) (fun w => dc9 _ _ _ w (dc11_cur_e w)) (fun w => dc9 _ _ _ w (dc11_cur_e w)) (fun w => dc9 _ _ _ w (dc11_cls_e 1 w rfl)) (by rw [ByteArray.toList_eq, ByteArray.toList_eq]; rfl) (by rw [ByteArray.toList_eq]; rfl) (by rw [ByteArray.toList_eq]; rfl) (by rw [ByteArray.toList_eq]; rfl)
    · exact law_m a0 emp nmC k1 k1 w hs (.inl hm) (.inr ⟨hp, rfl⟩) (fun w => dc9 _ _ _ w (dc11_cls_e a0 w hp)) (fun w => dc9 _ _ _ w (dc11_cur_e w)) (fun w => dc9 _ _ _ w (dc11_cls_e 1 w rfl)) (by rw [ByteArray.toList_eq, ByteArray.toList_eq]; rfl) (by rw [ByteArray.toList_eq]; rfl) (by rw [ByteArray.toList_eq]; rfl) (by rw [ByteArray.toList_eq]; rfl)
  by_cases hu : a1 = utf
  · subst hu
    have hm : (utf.toList == []) = false := by rw [ByteArray.toList_eq]; rfl
    have hm2 : (utf.toList == [117, 116, 102, 56, 109, 98, 52]) = true := by rw [ByteArray.toList_eq]; rfl
    rcases hD with hp | hp
    · have e0 : a0 = 0 := beq_iff_eq.1 hp
      subst e0
      exact law_m 0 utf nmC k2 nmC w hs (.inr ⟨hm, hm2⟩) (.inl ⟨hp, rfl⟩) (fun w => dc9 _ _ _ w (dc11_cur_u w)) (fun w => dc9 _ _ _ w (dc11_cur_u w)) (fun w => dc9 _ _ _ w (dc11_cls_u 1 w rfl)) (by rw [ByteArray.toList_eq, ByteArray.toList_eq]; rfl) (by rw [ByteArray.toList_eq]; rfl) (by rw [ByteArray.toList_eq]; rfl) (by rw [ByteArray.toList_eq]; rfl)
    · exact law_m a0 utf nmC k2 k2 w hs (.inr ⟨hm, hm2⟩) (.inr ⟨hp, rfl⟩) (fun w => dc9 _ _ _ w (dc11_cls_u a0 w hp)) (fun w => dc9 _ _ _ w (dc11_cur_u w)) (fun w => dc9 _ _ _ w (dc11_cls_u 1 w rfl)) (by rw [ByteArray.toList_eq, ByteArray.toList_eq]; rfl) (by rw [ByteArray.toList_eq]; rfl) (by rw [ByteArray.toList_eq]; rfl) (by rw [ByteArray.toList_eq]; rfl)
  have h1 : (a1.toList == []) = false := by
    apply beq_eq_false_iff_ne.2
    rw [ByteArray.toList_eq]
    intro e
    exact he (ByteArray.ext (Array.toList_inj.1 e))
  have h2 : (a1.toList == [117, 116, 102, 56, 109, 98, 52]) = false := by
    apply beq_eq_false_iff_ne.2
    rw [ByteArray.toList_eq]
    intro e
    exact hu (ByteArray.ext (Array.toList_inj.1 e))
  have hps : pfx.size = 29 := rfl
  have hsz : (pfx ++ a1).size = 29 + a1.size := by rw [ByteArray.size_append, hps]
  refine law_n a0 a1 (pfx ++ a1) w hs h1 h2 (fun p w => dc9 _ _ _ w (dc11_other p a1 w h1 h2 hs)) (fun w => suffix10 _ _ 29 w hsz (by omega) fun k h h3 => ?_) ?_ (by omega) (by omega)
  · rw [ByteArray.getElem_append_right (by rw [hps]; omega)]
    simp [hps]
  · apply beq_eq_false_iff_ne.2
    rw [ByteArray.toList_eq]
    intro e
    have := congrArg List.length e
    have h4 : (pfx ++ a1).data.toList.length = (pfx ++ a1).size := rfl
    rw [h4, hsz] at this
    simp at this
    omega

/-! ### THE ROW's STEP: WRITTEN OUT: LEAVE IT -/
set_option maxRecDepth 100000 in
theorem lifted (os : Os) (started : os.Started) (H : Type) (enc : TypeId × Value → H) :
    ReturnsInHanded {} Try.checked os 4 .any (Rows.fnDefaultCollationByProfileSpec.pre6 enc Try.prog Try.f4 Rows.fnDefaultCollationByProfileRow.domain false) (Rows.fnDefaultCollationByProfileSpec.post enc Try.prog Try.f4 false true false false) := by
  refine returnsInHanded_of_change (C := Try.checked) own started (by kernel_rfl) Try.func4
    (ChangeSpec.witness6 (enc := enc) (C := Try.checked) false ⟨#[], #[.int .i64 0, .string ByteArray.empty], []⟩ 8 (by kernel_rfl) (by kernel_rfl) (by kernel_rfl) (by kernel_rfl)) ?_
  intro W base args ds gs before hval0 hW hcnd _
  have hval : ∀ (j : Nat) t v, Try.f4.params[j]? = some t → args[j]? = some v → Value.okWide Try.prog W .any base t v := hval0
  have hW' := hW
  obtain ⟨p, q, hA0, hV, rfl, hfz, hnd⟩ := hW
  have hA : DataW.TrodAll enc Try.prog W 0 (fun _ => true) true Try.f4.params.toList args.toList ds p := hA0
  rw [Try.params4] at hA hval
  obtain ⟨v0, vs0, d0, ds0, p0, q0, hargs, rfl, rfl, h0, r0⟩ := trodAll_cons hA
  obtain ⟨v1, vs1, d1, ds1, p1, q1, rfl, rfl, rfl, h1, r1⟩ := trodAll_cons r0
  obtain ⟨rfl, rfl, rfl⟩ := trodAll_nil r1
  obtain rfl : args = #[v0, v1] := by cases args; simp_all
  obtain ⟨rfl, rfl⟩ := trodVars_none hV
  obtain ⟨a0, rfl, rfl, rfl, w0⟩ := open_int Try.underlying3 (hval 0 3 v0 rfl rfl) h0
  obtain ⟨a1, rfl, rfl, rfl, w1⟩ := open_string Try.underlying9 (hval 1 9 v1 rfl rfl) h1
  clear hA0 hval0
  simp only [List.append_nil] at hW'
  refine (walk a0 a1 w0 w1 W).mono fun e W' ⟨he, hg⟩ => ?_
  subst he
  exact ⟨_, rfl, post_of_same (pa := []) (pv := []) hW' (fun _ _ _ => (trodAll_cons_mk (shut_bool Try.underlying4 _) trodAll_mk0)) (fun sp _ => (trodAll_cons_mk (shut_int Try.underlying3 w0) (trodAll_cons_mk (shut_string Try.underlying9 w1) trodAll_mk0))) (fun _ _ => rfl) rfl
    (hg.frame _) hg.2.1 (ok_one (by kernel_rfl) rfl (okWide_bool_mk Try.underlying4 _))⟩

theorem over : Rows.fnDefaultCollationByProfileRow.holds Try.pinned (OpenSpec.ofChange Rows.fnDefaultCollationByProfileSpec) :=
  OpenClaim.holds_of_wide 4 Try.f4 rfl rfl rfl rfl rfl rfl rfl ⟨rfl, rfl, rfl, rfl, rfl⟩ rfl rfl rfl rfl rfl (by kernel_rfl) Try.func4 (by kernel_rfl)
    (of_decide_eq_true (by kernel_rfl)) (by unfold Func.isWrapper; first | (rw [if_pos (by decide +kernel)]; kernel_rfl) | (rw [if_neg (by decide +kernel)]; exact ⟨rfl, rfl⟩))
    (fun os started H enc _ => lifted os started H enc)

/-- ████ THE STATEMENT ████ -/
theorem proved : Rows.FnDefaultCollationByProfileSaid :=
  over
#print axioms proved
end Go.Proofs.Qxb6003637a.fnDefaultCollationByProfile
