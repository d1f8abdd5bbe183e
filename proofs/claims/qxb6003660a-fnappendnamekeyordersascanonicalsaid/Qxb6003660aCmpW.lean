import Derived.Test.Qxb6003660aConcat
import Derived.Test.Qxb6003660aCmpPlain
namespace Go.Proofs.Qxb6003660a
open Go.RowKit

set_option maxHeartbeats 1000000 in
theorem bytesCompare_any (s t : Value) (A B : List Int) (w : World) (hs : Reads8 w s A) (ht : Reads8 w t B) :
    Calls Try.prog 20 #[s, t] w fun e w' => e = .returned (.int .i64 (cmpI A B)) ∧ ∃ n, w' = w.drewN n := by
  obtain ⟨ao, c1, hv1, ha1, ha2, HSA⟩ := hs.form
  obtain ⟨bo, c2, hv2, hb1, hb2, HSB⟩ := ht.form
  clear hs ht
  subst hv1 hv2
  go_enter Try.func20, Try.ntmps20
  go_wp2
  go_loopw [5] (fun i wr => ∃ k n : Nat, k ≤ A.length ∧ k ≤ B.length ∧ i = .int .i64 k ∧ Hid (wr = w.drewN n) ∧ Hid (cmpI A B = cmpI (A.drop k) (B.drop k))) (fun i _ => A.length - (intOf i).toNat)
  case atStart => exact ⟨0, 0, by omega, by omega, rfl, rfl, rfl⟩
  case round =>
    obtain ⟨k, n, hk, hk2, rfl, HW, HR⟩ := hrel
    by_cases h1 : k < A.length
    · by_cases h2 : k < B.length
      · obtain ⟨g, off, hao, hc⟩ := HSA.out (by omega)
        obtain ⟨g2, off2, hbo, hc2⟩ := HSB.out (by omega)
        have hx1 : wr.cell? ⟨g, off + k, none⟩ = some (.int .u8 (A.getD k 0)) := by rw [HW.out]; exact hc k h1
        have hx2 : wr.cell? ⟨g2, off2 + k, none⟩ = some (.int .u8 (B.getD k 0)) := by rw [HW.out]; exact hc2 k h2
        clear hc hc2
        subst hao hbo
        have t1 := @cmp_lt A B k h1 h2
        have t2 := @cmp_gt A B k h1 h2
        have t3 := @cmp_same A B k h1 h2
        generalize A.getD k 0 = x at *
        generalize B.getD k 0 = y at *
        have T1 := (show Hid _ from t1)
        have T2 := (show Hid _ from t2)
        have T3 := (show Hid _ from t3)
        clear t1 t2 t3
        by_cases h3 : x < y
        · go_wp2
          go_quiet (fail)
          go_wp2
          go_ret
          exact ⟨ret_int (by rw [HR.out, T1.out h3]), n + nq, by rw [HW.out, World.drewN_drewN]⟩
        · have d3 : decide (x < y) = false := by simpa using h3
          by_cases h4 : y < x
          · go_wp2
            go_quiet (fail)
            go_wp2
            go_quiet (fail)
            go_wp2
            go_ret
            exact ⟨ret_int (by rw [HR.out, T2.out h4]), _, by rw [HW.out, World.drewN_drewN, World.drewN_drewN]⟩
          · have d4 : decide (y < x) = false := by simpa using h4
            go_wp2
            go_quiet (fail)
            go_wp2
            go_quiet (fail)
            go_wp2
            go_roundw
            case rel => exact ⟨k + 1, _, by omega, by omega, by go_num, by show _ = _; rw [HW.out, World.drewN_drewN], by show _ = _; rw [HR.out, T3.out h3 h4]⟩
            case measure => simp [intOf]; omega
      · have e := HR.out
        rw [cmp_end hk hk2 (by omega), if_neg (by omega), if_pos (by omega)] at e
        have HE := (show Hid _ from e); clear e
        go_wp2
        go_ret
        exact ⟨ret_int HE.out.symm, n, HW.out⟩
    · have e := HR.out
      rw [cmp_end hk hk2 (by omega)] at e
      by_cases h5 : A.length < B.length
      · rw [if_pos h5] at e
        have HE := (show Hid _ from e); clear e
        go_wp2
        go_ret
        exact ⟨ret_int HE.out.symm, n, HW.out⟩
      · rw [if_neg h5, if_neg (by omega)] at e
        have HE := (show Hid _ from e); clear e
        go_wp2
        go_ret
        exact ⟨ret_int HE.out.symm, n, HW.out⟩

end Go.Proofs.Qxb6003660a
