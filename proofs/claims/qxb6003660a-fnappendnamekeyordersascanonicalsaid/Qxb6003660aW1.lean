import Derived.Test.Qxb6003660aChecked
import Derived.Test.Qxb6003660aPlain
import Derived.WalkKit
import Derived.WalkSpells
import Derived.BigQuiet
import Derived.Lib.IndexBytes
import Derived.Deep.QuietTactic
namespace Go.Proofs.Qxb6003660a
open Go.RowKit

theorem ret_int {k : IntKind} {a b : Int} (h : a = b) : Ending.returned (.int k a) = .returned (.int k b) := by rw [h]
theorem ret_bool {a b : Bool} (h : a = b) : Ending.returned (.bool a) = .returned (.bool b) := by rw [h]

set_option maxHeartbeats 400000 in
theorem lower_any (c : Int) (w : World) (h0 : 0 ≤ c) (h1 : c ≤ 255) :
    Calls Try.prog 39 #[.int .u8 c] w fun e w' => e = .returned (.int .u8 (lowI c)) ∧ w' = w := by
  by_cases ha : 65 ≤ c
  · by_cases hb : c ≤ 90
    · go_enter Try.func39, Try.ntmps39
      go_wp2
      go_ret
      exact ⟨ret_int (by unfold lowI; rw [if_pos ⟨ha, hb⟩]; omega), rfl⟩
    · go_enter Try.func39, Try.ntmps39
      go_wp2
      go_ret
      exact ⟨ret_int (by unfold lowI; rw [if_neg (by omega)]), rfl⟩
  · go_enter Try.func39, Try.ntmps39
    go_wp2
    go_ret
    exact ⟨ret_int (by unfold lowI; rw [if_neg (by omega)]), rfl⟩

theorem lower_byte (c : UInt8) (w : World) :
    Calls Try.prog 39 #[.int .u8 (c.toNat : Int)] w fun e w' => e = .returned (.int .u8 (lowI (c.toNat : Int))) ∧ w' = w :=
  lower_any _ _ (by omega) (by have := c.toNat_lt; omega)

set_option maxHeartbeats 400000 in
theorem eqfold_any (a b : ByteArray) (w : World) (ha : a.size ≤ maxLen) (hs : a.size = b.size) :
    Calls Try.prog 36 #[.string a, .string b] w fun e w' => e = .returned (.bool (eqF a.data.toList b.data.toList)) ∧ ∃ n, w' = w.drewN n := by
  unfold maxLen at ha
  have hsb : b.size ≤ a.size := by omega
  have hsa : a.size ≤ b.size := by omega
  have HS : Hid (a.size = b.size) := hs
  clear hs
  go_enter Try.func36, Try.ntmps36
  go_wp2
  go_loopw [8] (fun i wr => ∃ k n : Nat, k ≤ a.size ∧ i = .int .i64 k ∧ Hid (wr = w.drewN n) ∧ Hid (∀ j, (hj : j < k) → (hk : k ≤ a.size) → lowU (a[j]'(by omega)) = lowU (b[j]'(by omega)))) (fun i _ => a.size - (intOf i).toNat)
  case atStart => exact ⟨0, 0, Nat.zero_le _, rfl, rfl, fun j hj => by omega⟩
  case round =>
    obtain ⟨k, n, hk, rfl, HW, HR⟩ := hrel
    by_cases hlt : k < a.size
    · have hlt2 : k < b.size := by omega
      by_cases heq : lowU a[k] = lowU b[k]
      · have hn : (lowI (a[k].toNat : Int) != lowI (b[k].toNat : Int)) = false := by
          unfold lowU at heq; simp [heq]
        have HE : Hid (lowU a[k] = lowU b[k]) := heq
        clear heq
        go_wp2
        go_quiet ((go_at_call 39; exact Calls.quiet_of_same (lower_byte _ _)))
        go_wp2
        go_roundw
        case rel =>
          refine ⟨k + 1, n + nq, by omega, by go_num, by rw [HW.out, World.drewN_drewN]; rfl, fun j hj _ => ?_⟩
          by_cases hjk : j = k
          · subst hjk; exact HE.out
          · exact HR.out j (by omega) (by omega)
        case measure => simp [intOf]; omega
      · have hn : (lowI (a[k].toNat : Int) != lowI (b[k].toNat : Int)) = true := by
          unfold lowU at heq; simp [heq]
        have HF : Hid (eqF a.data.toList b.data.toList = false) := eqF_false a b HS.out k hlt heq
        clear heq
        go_wp2
        go_quiet ((go_at_call 39; exact Calls.quiet_of_same (lower_byte _ _)))
        go_wp2
        go_ret
        exact ⟨ret_bool HF.out.symm, n + nq, by rw [HW.out, World.drewN_drewN]⟩
    · have HT : Hid (eqF a.data.toList b.data.toList = true) := eqF_true a b HS.out (fun j hj => HR.out j (by omega) (by omega))
      go_wp2
      go_ret
      exact ⟨ret_bool HT.out.symm, n, HW.out⟩


set_option maxHeartbeats 400000 in
theorem inzone_any (n apex : ByteArray) (w : World) (hn : n.size ≤ 1048576) (ha : apex.size ≤ maxLen) :
    Calls Try.prog 23 #[.string n, .string apex] w fun e w' => e = .returned (.bool (inZ n.size n.data.toList apex.data.toList)) ∧ ∃ m, w' = w.drewN m := by
  unfold maxLen at ha
  go_enter Try.func23, Try.ntmps23
  go_wp2
  go_loop [5] (fun i => ∃ k f : Nat, k ≤ n.size + 255 ∧ n.size ≤ k + f ∧ i = .int .i64 k ∧ Hid (inZ f (n.data.toList.drop k) apex.data.toList = inZ n.size n.data.toList apex.data.toList)) (fun i => n.size - (intOf i).toNat)
  case atStart => exact ⟨0, n.size, by omega, by omega, rfl, rfl⟩
  case round =>
    obtain ⟨k, f, hk, hf, rfl, HR⟩ := hrel
    by_cases h1 : k < n.size
    · by_cases h2 : apex.size ≤ n.size - k
      · obtain ⟨f, rfl⟩ : ∃ g, f = g + 1 := ⟨f - 1, by omega⟩
        by_cases h3 : n.size - k = apex.size
        · have HF : Hid (eqF (n.extract k n.size).data.toList apex.data.toList = inZ n.size n.data.toList apex.data.toList) := by
            show _ = _
            rw [← HR.out, inZ_same f k n apex h1 h3, Lib.extract_to_end]
          have hs : (n.extract k n.size).size = apex.size := by simp; omega
          have HZ : Hid ((n.extract k n.size).size = apex.size) := hs
          clear hs
          go_wp2_with fail
          refine (eqfold_any _ _ _ (by rw [HZ.out]; unfold maxLen; omega) HZ.out).mono ?_
          rintro e w' ⟨rfl, m, rfl⟩
          go_wp2_with fail
          go_ret
          exact ⟨ret_bool (by rw [← HF.out, Lib.extract_data, h3]), m, rfl⟩
        · have hc := n[k].toNat_lt
          have HN : Hid (inZ f (n.data.toList.drop (k + (1 + n[k].toNat))) apex.data.toList = inZ n.size n.data.toList apex.data.toList) := by
            show _ = _
            rw [← HR.out, inZ_step f k n apex h1 (by omega)]
          go_wp2
          go_round
          case rel => exact ⟨k + (1 + n[k].toNat), f, by omega, by omega, by go_num, HN⟩
          case measure => simp [intOf]; omega
      · have HN : Hid (inZ n.size n.data.toList apex.data.toList = false) := by
          show _ = _
          rw [← HR.out, inZ_short f k n apex h1 (by omega)]
        go_wp2
        go_ret
        exact ⟨ret_bool HN.out.symm, 0, rfl⟩
    · have HN : Hid (inZ n.size n.data.toList apex.data.toList = false) := by
        show _ = _
        rw [← HR.out, List.drop_eq_nil_of_le (by rw [len_data]; omega), inZ_nil]
      go_wp2
      go_ret
      exact ⟨ret_bool HN.out.symm, 0, rfl⟩

set_option maxHeartbeats 400000 in
theorem vname_any (n : ByteArray) (w : World) (hn : n.size ≤ 1048576) :
    Calls Try.prog 10 #[.string n] w fun e w' => e = .returned (.bool (vName n.data.toList)) ∧ w' = w := by
  by_cases g1 : n.size < 1
  · have HF : Hid (vName n.data.toList = false) := vName_out n (.inl g1)
    go_enter Try.func10, Try.ntmps10
    go_wp2
    go_ret
    exact ⟨ret_bool HF.out.symm, rfl⟩
  by_cases g2 : 255 < n.size
  · have HF : Hid (vName n.data.toList = false) := vName_out n (.inr g2)
    go_enter Try.func10, Try.ntmps10
    go_wp2
    go_ret
    exact ⟨ret_bool HF.out.symm, rfl⟩
  have HV : Hid (vName n.data.toList = vN n.size n.data.toList) := vName_in n (by omega) (by omega)
  go_enter Try.func10, Try.ntmps10
  go_wp2
  go_loop [3] (fun i => ∃ k f : Nat, k ≤ n.size + 255 ∧ n.size ≤ k + f ∧ i = .int .i64 k ∧ Hid (vN f (n.data.toList.drop k) = vN n.size n.data.toList)) (fun i => n.size - (intOf i).toNat)
  case atStart => exact ⟨0, n.size, by omega, by omega, rfl, rfl⟩
  case round =>
    obtain ⟨k, f, hk, hf, rfl, HR⟩ := hrel
    by_cases h1 : k < n.size
    · obtain ⟨f, rfl⟩ : ∃ g, f = g + 1 := ⟨f - 1, by omega⟩
      have hc := n[k].toNat_lt
      by_cases h2 : n[k].toNat = 0
      · have hb : ((n[k].toNat : Int) == 0) = true := by simp [h2]
        have HF : Hid (decide (k + 1 = n.size) = vName n.data.toList) := by
          show _ = _
          rw [HV.out, ← HR.out, vN_end f k n h1 h2]
        clear h2
        go_wp2
        go_ret
        exact ⟨ret_bool (by rw [← HF.out]; rw [Bool.eq_iff_iff]; simp; omega), rfl⟩
      · have hb : ((n[k].toNat : Int) == 0) = false := by simp; omega
        by_cases h3 : 63 < n[k].toNat
        · have HF : Hid (false = vName n.data.toList) := by
            show _ = _
            rw [HV.out, ← HR.out, vN_big f k n h1 h3]
          go_wp2
          go_ret
          exact ⟨ret_bool HF.out, rfl⟩
        · have HN : Hid (vN f (n.data.toList.drop (k + (1 + n[k].toNat))) = vN n.size n.data.toList) := by
            show _ = _
            rw [← HR.out, vN_step f k n h1 h2 (by omega)]
          go_wp2
          go_round
          case rel => exact ⟨k + (1 + n[k].toNat), f, by omega, by omega, by go_num, HN⟩
          case measure => simp [intOf]; omega
    · have HF : Hid (false = vName n.data.toList) := by
        show _ = _
        rw [HV.out, ← HR.out, List.drop_eq_nil_of_le (by rw [len_data]; omega), vN_nil]
      go_wp2
      go_ret
      exact ⟨ret_bool HF.out, rfl⟩

set_option maxHeartbeats 400000 in
theorem vlabels_any (n : ByteArray) (w : World) (hn : n.size ≤ 1048576) :
    Calls Try.prog 25 #[.string n] w fun e w' => e = .returned (.bool (vL n.size n.data.toList)) ∧ w' = w := by
  go_enter Try.func25, Try.ntmps25
  go_wp2
  go_loop [3] (fun i => ∃ k f : Nat, k ≤ n.size + 255 ∧ n.size ≤ k + f ∧ i = .int .i64 k ∧ Hid (vL n.size n.data.toList = (if k ≤ n.size then vL f (n.data.toList.drop k) else false))) (fun i => n.size - (intOf i).toNat)
  case atStart => exact ⟨0, n.size, by omega, by omega, rfl, by show _ = _; rw [if_pos (by omega)]; rfl⟩
  case round =>
    obtain ⟨k, f, hk, hf, rfl, HR⟩ := hrel
    by_cases h1 : k < n.size
    · obtain ⟨f, rfl⟩ : ∃ g, f = g + 1 := ⟨f - 1, by omega⟩
      have hc := n[k].toNat_lt
      have HR' : Hid (vL n.size n.data.toList = vL (f + 1) (n.data.toList.drop k)) := by
        show _ = _
        rw [HR.out, if_pos (by omega)]
      clear HR
      by_cases h2 : n[k].toNat = 0
      · have hb : ((n[k].toNat : Int) == 0) = true := by simp [h2]
        have HF : Hid (false = vL n.size n.data.toList) := by
          show _ = _
          rw [HR'.out, vL_zero f k n h1 (.inl h2)]
        clear h2
        go_wp2
        go_ret
        exact ⟨ret_bool HF.out, rfl⟩
      · have hb : ((n[k].toNat : Int) == 0) = false := by simp; omega
        by_cases h3 : 63 < n[k].toNat
        · have HF : Hid (false = vL n.size n.data.toList) := by
            show _ = _
            rw [HR'.out, vL_zero f k n h1 (.inr h3)]
          go_wp2
          go_ret
          exact ⟨ret_bool HF.out, rfl⟩
        · have HN : Hid (vL n.size n.data.toList = (if k + (1 + n[k].toNat) ≤ n.size then vL f (n.data.toList.drop (k + (1 + n[k].toNat))) else false)) := by
            show _ = _
            rw [HR'.out]
            split
            · rw [vL_step f k n h1 h2 (by omega) (by omega)]
            · rw [vL_past f k n h1 (by omega)]
          go_wp2
          go_round
          case rel => exact ⟨k + (1 + n[k].toNat), f, by omega, by omega, by go_num, HN⟩
          case measure => simp [intOf]; omega
    · have HF : Hid (decide ((k : Int) = n.size) = vL n.size n.data.toList) := by
        show _ = _
        rw [HR.out]
        split
        · rw [List.drop_eq_nil_of_le (by rw [len_data]; omega), vL_nil]; simp; omega
        · simp; omega
      go_wp2
      go_ret
      exact ⟨ret_bool (by rw [← HF.out]; rfl), rfl⟩

end Go.Proofs.Qxb6003660a
