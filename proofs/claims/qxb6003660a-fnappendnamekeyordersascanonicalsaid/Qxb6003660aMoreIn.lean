import Derived.Test.Qxb6003660aRows
import Derived.Test.Qxb6003660aW2
import Derived.Test.Qxb6003660aLabels
import Derived.WalkKit
import Derived.Below
namespace Go.Proofs.Qxb6003660a
open Go.RowKit
set_option linter.unusedVariables false

theorem vlabels_b (n : ByteArray) (w : World) (hn : n.size ≤ 1048576) (b : Bool) (hb : vL n.data.toList.length n.data.toList = b) :
    Calls Try.prog 25 #[.string n] w fun e w' => e = .returned (.bool b) ∧ w' = w := by
  rw [len_data] at hb; rw [← hb]; exact vlabels_any n w hn
theorem vname_b (n : ByteArray) (w : World) (hn : n.size ≤ 1048576) (b : Bool) (hb : vName n.data.toList = b) :
    Calls Try.prog 10 #[.string n] w fun e w' => e = .returned (.bool b) ∧ w' = w := by
  rw [← hb]; exact vname_any n w hn
theorem inzone_b (n apex : ByteArray) (w : World) (hn : n.size ≤ 1048576) (ha : apex.size ≤ 1048576) (b : Bool) (hb : inZ n.data.toList.length n.data.toList apex.data.toList = b) :
    Calls Try.prog 23 #[.string n, .string apex] w fun e w' => e = .returned (.bool b) ∧ ∃ m, w' = w.drewN m := by
  rw [len_data] at hb; rw [← hb]; exact inzone_any n apex w hn (by unfold maxLen; omega)

theorem cat_data (a b : ByteArray) : (a ++ b).data.toList = a.data.toList ++ b.data.toList := by simp
theorem cat_size (a b : ByteArray) : (a ++ b).size = a.size + b.size := by simp
theorem drewN_size (w : World) (n : Nat) : (w.drewN n).heap.size = w.heap.size := rfl
theorem drewN_below (w : World) (n : Nat) : Below w.heap.size w (w.drewN n) := ⟨rfl, rfl, rfl, Nat.le_refl _, fun _ _ => rfl⟩

theorem drewN_below' (B : Nat) (w : World) (n : Nat) : Below B w (w.drewN n) := ⟨rfl, rfl, rfl, Nat.le_refl _, fun _ _ => rfl⟩

set_option maxHeartbeats 1000000 in
theorem walk_in (c0 : Bool) (a0 : ByteArray) (a1 : ByteArray) (a2 : ByteArray) (w : World) (hc0 : ((a0.size : Int) == 0) = c0) (h255 : a0.size + a1.size ≤ 255) (ht : a0.size + a1.size + a2.size ≤ 1048576)
    (HP : Hid (vL a0.data.toList.length a0.data.toList = true)) (HN : Hid (vName a1.data.toList = true)) (HZ : Hid (vName a2.data.toList = true)) :
    Calls Try.prog 6 #[.string a0, .string a1, .string a2] w fun e w' => e = .returned (.bool true) ∧ Below w.heap.size w w' := by
  have law := more_labels _ _ _ HP.out HN.out HZ.out
  rw [← cat_data] at law
  obtain ⟨l1, l2, l3, l4, l5⟩ := law
  have L1 := (show Hid _ from l1); clear l1
  have L2 := (show Hid _ from l2); clear l2
  have L3 : Hid (inZ a1.data.toList.length a1.data.toList (a0 ++ a1).data.toList = c0) := by
    show _ = _
    rw [l3, len_data, ← hc0, Bool.eq_iff_iff]; simp
  clear l3
  have L4 := (show Hid _ from l4); clear l4
  have L5 := (show Hid _ from l5); clear l5
  have d0 : decide ((1048576 : Int) < (a0.size : Int)) = false := by simp; omega
  have d1 : decide ((1048576 : Int) < (a1.size : Int)) = false := by simp; omega
  have d2 : decide ((1048576 : Int) < (a2.size : Int)) = false := by simp; omega
  have d3 : decide ((1048576 : Int) < (a0.size : Int) + (a1.size : Int) + (a2.size : Int)) = false := by simp; omega
  have d4 : decide ((255 : Int) < (a0.size : Int) + (a1.size : Int)) = false := by simp; omega
  obtain ⟨b4, L4'⟩ : ∃ b4, Hid (inZ (a0 ++ a1).data.toList.length (a0 ++ a1).data.toList a2.data.toList = b4) := ⟨_, rfl⟩
  have hms : (a0 ++ a1).size ≤ 1048576 := by rw [cat_size]; omega
  have HM := (show Hid _ from hms); clear hms
  cases c0
  all_goals
    go_enter Try.func6, Try.ntmps6
    go_wp2_with fail
    refine (bytes3_yes a0 a1 a2 w ht).mono ?_
    rintro e w' ⟨rfl, rfl⟩
    go_wp2_with fail
    refine (vlabels_b a0 _ (by omega) _ HP.out).mono ?_
    rintro e w' ⟨rfl, rfl⟩
    go_wp2_with fail
    refine (vname_b a1 _ (by omega) _ HN.out).mono ?_
    rintro e w' ⟨rfl, rfl⟩
    go_wp2_with fail
    refine (vname_b a2 _ (by omega) _ HZ.out).mono ?_
    rintro e w' ⟨rfl, rfl⟩
    go_wp2_with fail
    refine (inzone_b _ _ _ HM.out (by omega) _ L1.out).mono ?_
    rintro e w' ⟨rfl, m1, rfl⟩
    go_wp2_with fail
    refine (swap_any a1 _ (by omega)).mono ?_
    rintro e w1 ⟨⟨r, rfl, hr⟩, hb⟩
    have hrs : r.size ≤ 1048576 := by rw [← len_data, hr, List.length_map, len_data]; omega
    have L2' : Hid (inZ (a0 ++ a1).data.toList.length (a0 ++ a1).data.toList r.data.toList = true) := by
      show _ = _
      rw [hr]; exact L2.out
    have HB : Hid (Below w'.heap.size w' w1) := (drewN_below _ _).trans hb
    clear hr hb L2
    go_wp2_with fail
    refine (inzone_b _ _ _ HM.out hrs _ L2'.out).mono ?_
    rintro e w2 ⟨rfl, m2, rfl⟩
    go_wp2_with fail
    refine (inzone_b _ _ _ (by omega) HM.out _ L3.out).mono ?_
    rintro e w2 ⟨rfl, m3, rfl⟩
    go_wp2_with fail
    refine (inzone_b _ _ _ HM.out (by omega) b4 L4'.out).mono ?_
    rintro e w2 ⟨rfl, m4, rfl⟩
    by_cases hle : a2.size ≤ a1.size
    · have L6 : Hid (inZ a1.data.toList.length a1.data.toList a2.data.toList = b4) := by
        show _ = _
        rw [← L4.out (by rw [len_data, len_data]; exact hle)]; exact L4'.out
      go_wp2_with fail
      refine (inzone_b _ _ _ (by omega) (by omega) b4 L6.out).mono ?_
      rintro e w2 ⟨rfl, m5, rfl⟩
      go_wp2_with fail
      go_ret
      exact ⟨rfl, HB.out.trans (drewN_below' _ _ _)⟩
    · cases b4
      · go_wp2_with fail
        go_ret
        exact ⟨rfl, HB.out.trans (drewN_below' _ _ _)⟩
      · have L6 : Hid (inZ a2.data.toList.length a2.data.toList a1.data.toList = true) := L5.out (by rw [len_data, len_data]; omega) L4'.out
        go_wp2_with fail
        refine (inzone_b _ _ _ (by omega) (by omega) _ L6.out).mono ?_
        rintro e w2 ⟨rfl, m5, rfl⟩
        go_wp2_with fail
        go_ret
        exact ⟨rfl, HB.out.trans (drewN_below' _ _ _)⟩

end Go.Proofs.Qxb6003660a
