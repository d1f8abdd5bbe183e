import Derived.Test.Qxb6003660aCmpW
namespace Go.Proofs.Qxb6003660a
open Go.RowKit

theorem preB_self (A : List Int) : preB A A = true := preB_all (Nat.le_refl _) (fun _ _ => rfl)

set_option maxHeartbeats 400000 in
theorem bytesEqual_same (s t : Value) (A : List Int) (w : World) (hs : Reads8 w s A) (ht : Reads8 w t A) :
    Calls Try.prog 19 #[s, t] w fun e w' => e = .returned (.bool true) ∧ ∃ n, w' = w.drewN n := by
  have HS := (show Hid _ from hs)
  have HT := (show Hid _ from ht)
  obtain ⟨ao, c1, hv1, _, _, _⟩ := hs.form
  obtain ⟨bo, c2, hv2, _, _, _⟩ := ht.form
  clear hs ht
  subst hv1 hv2
  go_enter Try.func19, Try.ntmps19
  go_wp2_with fail
  refine (hasPrefix_any _ _ _ _ _ HS.out HT.out).mono ?_
  rintro e w' ⟨rfl, n, rfl⟩
  rw [preB_self]
  go_wp2_with fail
  go_ret
  exact ⟨rfl, n, rfl⟩

set_option maxHeartbeats 400000 in
theorem zzlower_any (c : UInt8) (w : World) :
    Calls Try.prog 16 #[.int .u8 (c.toNat : Int)] w fun e w' => e = .returned (.int .u8 (lowU c)) ∧ w' = w := by
  have h1 := c.toNat_lt
  by_cases ha : 65 ≤ (c.toNat : Int)
  · by_cases hb : (c.toNat : Int) ≤ 90
    · go_enter Try.func16, Try.ntmps16
      go_wp2
      go_ret
      exact ⟨ret_int (by unfold lowU lowI; rw [if_pos ⟨ha, hb⟩]), rfl⟩
    · go_enter Try.func16, Try.ntmps16
      go_wp2
      go_ret
      exact ⟨ret_int (by unfold lowU lowI; rw [if_neg (by omega)]), rfl⟩
  · go_enter Try.func16, Try.ntmps16
    go_wp2
    go_ret
    exact ⟨ret_int (by unfold lowU lowI; rw [if_neg (by omega)]), rfl⟩

def lwB (s : ByteArray) : List Int := s.data.toList.map lowU
theorem lwB_len (s : ByteArray) : (lwB s).length = s.size := by unfold lwB; rw [List.length_map, len_data]
theorem lwB_at (s : ByteArray) (k : Nat) (h : k < s.size) : (lwB s).getD k 0 = lowU s[k] := by
  have h' : k < s.data.toList.length := by rw [len_data]; exact h
  unfold lwB
  simp [List.getD]
  rw [Array.getElem?_eq_getElem (show k < s.data.size from h)]
  rfl

set_option maxHeartbeats 1000000 in
theorem labelCompare_any (s t : ByteArray) (w : World) (hs : s.size ≤ 1048576) (ht : t.size ≤ 1048576) :
    Calls Try.prog 35 #[.string s, .string t] w fun e w' => e = .returned (.int .i64 (cmpI (lwB s) (lwB t))) ∧ w' = w := by
  have la := lwB_len s
  have lb := lwB_len t
  have LA := (show Hid _ from la)
  have LB := (show Hid _ from lb)
  clear la lb
  go_enter Try.func35, Try.ntmps35
  go_wp2
  go_loop [5] (fun i => ∃ k : Nat, k ≤ s.size ∧ k ≤ t.size ∧ i = .int .i64 k ∧ Hid (cmpI (lwB s) (lwB t) = cmpI ((lwB s).drop k) ((lwB t).drop k))) (fun i => s.size - (intOf i).toNat)
  case atStart => exact ⟨0, by omega, by omega, rfl, rfl⟩
  case round =>
    obtain ⟨k, hk, hk2, rfl, HR⟩ := hrel
    have e0 := @cmp_end (lwB s) (lwB t) k (by rw [LA.out]; exact hk) (by rw [LB.out]; exact hk2)
    rw [LA.out, LB.out] at e0
    have E0 := (show Hid _ from e0); clear e0
    by_cases h1 : k < s.size
    · by_cases h2 : k < t.size
      · have t1 := @cmp_lt (lwB s) (lwB t) k (by rw [LA.out]; exact h1) (by rw [LB.out]; exact h2)
        have t2 := @cmp_gt (lwB s) (lwB t) k (by rw [LA.out]; exact h1) (by rw [LB.out]; exact h2)
        have t3 := @cmp_same (lwB s) (lwB t) k (by rw [LA.out]; exact h1) (by rw [LB.out]; exact h2)
        rw [lwB_at s k h1, lwB_at t k h2] at t1 t2 t3
        have T1 := (show Hid _ from t1)
        have T2 := (show Hid _ from t2)
        have T3 := (show Hid _ from t3)
        clear t1 t2 t3
        by_cases h3 : lowU s[k] < lowU t[k]
        · go_wp2_with (go_at_call 16; refine (zzlower_any _ _).mono ?_; rintro e w' ⟨rfl, rfl⟩)
          go_ret
          exact ⟨ret_int (by rw [HR.out, T1.out h3]), rfl⟩
        · by_cases h4 : lowU t[k] < lowU s[k]
          · go_wp2_with (go_at_call 16; refine (zzlower_any _ _).mono ?_; rintro e w' ⟨rfl, rfl⟩)
            go_ret
            exact ⟨ret_int (by rw [HR.out, T2.out h4]), rfl⟩
          · go_wp2_with (go_at_call 16; refine (zzlower_any _ _).mono ?_; rintro e w' ⟨rfl, rfl⟩)
            go_round
            case rel => exact ⟨k + 1, by omega, by omega, by go_num, by show _ = _; rw [HR.out, T3.out h3 h4]⟩
            case measure => simp [intOf]; omega
      · have e := HR.out
        rw [E0.out (by omega), if_neg (by omega), if_pos (by omega)] at e
        have HE := (show Hid _ from e); clear e
        go_wp2
        go_ret
        exact ⟨ret_int HE.out.symm, rfl⟩
    · have e := HR.out
      rw [E0.out (by omega)] at e
      by_cases h5 : s.size < t.size
      · rw [if_pos h5] at e
        have HE := (show Hid _ from e); clear e
        go_wp2
        go_ret
        exact ⟨ret_int HE.out.symm, rfl⟩
      · rw [if_neg h5, if_neg (by omega)] at e
        have HE := (show Hid _ from e); clear e
        go_wp2
        go_ret
        exact ⟨ret_int HE.out.symm, rfl⟩

end Go.Proofs.Qxb6003660a
