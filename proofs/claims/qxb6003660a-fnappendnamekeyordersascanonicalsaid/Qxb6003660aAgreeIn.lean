import Derived.Test.Qxb6003660aRows
import Derived.Test.Qxb6003660aMoreIn
import Derived.Test.Qxb6003660aKeyW
import Derived.Test.Qxb6003660aKeyLaw
import Derived.Test.Qxb6003660aSlices
namespace Go.Proofs.Qxb6003660a
open Go.RowKit
set_option linter.unusedVariables false

set_option maxHeartbeats 400000 in
theorem bytes2_yes (a b : ByteArray) (w : World) (h : a.size + b.size ≤ 1048576) :
    Calls Try.prog 22 #[.string a, .string b] w fun e w' => e = .returned (.bool true) ∧ w' = w := by
  go_enter Try.func22, Try.ntmps22
  go_wp2
  go_ret
  exact ⟨rfl, rfl⟩

set_option maxHeartbeats 400000 in
theorem bytes2_no (a b : ByteArray) (w : World) (h : 1048576 < a.size + b.size) (ha : a.size ≤ maxLen) (hb : b.size ≤ maxLen) :
    Calls Try.prog 22 #[.string a, .string b] w fun e w' => e = .returned (.bool false) ∧ w' = w := by
  unfold maxLen at ha hb
  go_enter Try.func22, Try.ntmps22
  go_wp2
  all_goals (go_ret; exact ⟨rfl, rfl⟩)

theorem Own8.shape {w : World} {base : Nat} {v : Value} {L : List Int} (h : Own8 w base v L) (hL : 0 < L.length) : ∃ g cap, v = .slice (some ⟨g, 0, none⟩) L.length cap ∧ L.length ≤ cap ∧ cap ≤ maxLen := by
  rcases h.2 with ⟨hv, hn⟩ | ⟨g, cap, cur, hv, hb, hg, hnc, hcm, hs, ht⟩
  · omega
  · exact ⟨g, cap, hv, hnc, hcm⟩

theorem Own8.later {w w' : World} {base : Nat} {v : Value} {L : List Int} (h : Own8 w base v L) (hb : Below w.heap.size w w') : Own8 w' base v L := by
  refine ⟨h.1, ?_⟩
  rcases h.2 with h2 | ⟨g, cap, cur, hv, hbg, hg, r⟩
  · exact .inl h2
  · exact .inr ⟨g, cap, cur, hv, hbg, by rw [hb.block g (lt_of_some hg)]; exact hg, r⟩

theorem key_len2 (ls : List (List UInt8)) : 2 ≤ (key ls).length := by simp [key]
theorem key_lenmax (n : ByteArray) (ls : List (List UInt8)) (hn : n.data.toList = nm ls) (h : n.size ≤ 255) : (key ls).length ≤ 1000 := by
  have h1 := keyLs_len ls
  have h2 := congrArg List.length hn
  rw [len_data, nm_len] at h2
  unfold key
  rw [List.length_append]
  simp only [List.length_cons, List.length_nil]
  omega

/-- ZZappendNameKey, its result written out -/
theorem zzkey_shape (n : ByteArray) (ls : List (List UInt8)) (base : Nat) (v : Value) (zs : List Int) (w : World) (hn : n.data.toList = nm ls) (hg : Good ls) (h255 : n.size ≤ 255) (hown : Own8 w base v zs) (hbase : base ≤ w.heap.size) (hzs : zs.length ≤ 1048576) :
    Calls Try.prog 12 #[v, .string n] w fun e w' => ∃ g N cap, e = .returned (.slice (some ⟨g, 0, none⟩) N cap) ∧ zs.length + 2 ≤ N ∧ N ≤ cap ∧ N ≤ 1049600 ∧ cap ≤ 9223372036854775807 ∧ Hid (N = (zs ++ key ls).length) ∧ Hid (Own8 w' base (.slice (some ⟨g, 0, none⟩) N cap) (zs ++ key ls)) ∧ Hid (Below base w w') := by
  refine (zzkey_any n ls base v zs w hn hg h255 hown hbase hzs).mono ?_
  rintro e w' ⟨v', rfl, h1, h2⟩
  have hk := key_len2 ls
  have hk2 := key_lenmax n ls hn h255
  obtain ⟨g, cap, rfl, h3, h4⟩ := h1.shape (by rw [List.length_append]; omega)
  rw [List.length_append] at h3
  unfold maxLen at h4
  exact ⟨g, _, cap, rfl, by rw [List.length_append]; omega, by rw [List.length_append]; omega, by rw [List.length_append]; omega, by omega, rfl, h1, h2⟩

theorem reads_cut {w : World} {base g N c M : Nat} {A B : List Int} (h : Own8 w base (.slice (some ⟨g, 0, none⟩) N c) (A ++ B)) (hM : M = A.length) : Reads8 w (.slice (some ⟨g, 0, none⟩) M c) A := by
  subst hM
  rcases h.reads with ⟨hv, _⟩ | ⟨g', off, cap, hv, h1, h2, h3⟩
  · cases hv
  · cases hv
    rw [List.length_append] at h1
    refine .inr ⟨g, 0, c, rfl, by omega, h2, fun j hj => ?_⟩
    rw [h3 j (by rw [List.length_append]; omega)]
    simp [List.getD, List.getElem?_append_left hj]

set_option maxHeartbeats 1000000 in
theorem agree_in (n a : ByteArray) (ls ms : List (List UInt8)) (w : World) (ht : n.size + a.size ≤ 1048576) (hn : vName n.data.toList = true) (ha : vName a.data.toList = true) (hnl : n.data.toList = nm ls) (hal : a.data.toList = nm ms) (gl : Good ls) (gm : Good ms) (hn255 : n.size ≤ 255) (ha255 : a.size ≤ 255) :
    Calls Try.prog 5 #[.string n, .string a] w fun e w' => e = .returned (.bool true) ∧ Below w.heap.size w w' := by
  have HN := (show Hid _ from hn); clear hn
  have HA := (show Hid _ from ha); clear ha
  have HNL := (show Hid _ from hnl); clear hnl
  have HAL := (show Hid _ from hal); clear hal
  have HGL := (show Hid _ from gl); clear gl
  have HGM := (show Hid _ from gm); clear gm
  obtain ⟨b, hb⟩ : ∃ b, inZ n.data.toList.length n.data.toList a.data.toList = b := ⟨_, rfl⟩
  have HK : Hid (preB (key ls) (keyLs ms) = b) := by
    show _ = _
    rw [← hb, HNL.out, HAL.out, zone_key ls ms HGL.out HGM.out _ (Nat.le_refl _)]
    rfl
  have HB := (show Hid _ from hb); clear hb
  have d0 : decide ((1048576 : Int) < (n.size : Int)) = false := by simp; omega
  have d1 : decide ((1048576 : Int) < (a.size : Int)) = false := by simp; omega
  have d2 : decide ((1048576 : Int) < (n.size : Int) + (a.size : Int)) = false := by simp; omega
  go_enter Try.func5, Try.ntmps5
  go_wp2_with fail
  refine (bytes2_yes n a w ht).mono ?_
  rintro e w' ⟨rfl, rfl⟩
  go_wp2_with fail
  refine (vname_b n _ (by omega) _ HN.out).mono ?_
  rintro e w' ⟨rfl, rfl⟩
  go_wp2_with fail
  refine (vname_b a _ (by omega) _ HA.out).mono ?_
  rintro e w' ⟨rfl, rfl⟩
  go_wp2_with fail
  refine (inzone_b _ _ _ (by omega) (by omega) _ HB.out).mono ?_
  rintro e w1 ⟨rfl, m1, rfl⟩
  go_wp2_with fail
  refine (zzkey_shape n ls w'.heap.size _ [] _ HNL.out HGL.out hn255 (by exact World.ownsRow_nil _ _ _ _) (by exact Nat.le_refl _) (by simp)).mono ?_
  rintro e w2 ⟨g1, N1, c1, rfl, h1, h2, h3, h4, H5, H6, H7⟩
  go_wp2_with fail
  refine (zzkey_shape a ms w2.heap.size _ [] _ HAL.out HGM.out ha255 (by exact World.ownsRow_nil _ _ _ _) (by exact Nat.le_refl _) (by simp)).mono ?_
  rintro e w3 ⟨g2, N2, c2, rfl, k1, k2, k3, k4, K5, K6, K7⟩
  have R1 : Hid (Reads8 w3 (.slice (some ⟨g1, 0, none⟩) N1 c1) (key ls)) := (H6.out.later K7.out).reads
  have R2 : Hid (Reads8 w3 (.slice (some ⟨g2, 0, none⟩) (N2 - 2) c2) (keyLs ms)) := reads_cut (N := N2) (B := [0, 0]) K6.out (by have := K5.out; simp [key] at this; omega)
  have HBE : Hid (Below w'.heap.size w' w3) := ((drewN_below _ _).trans H7.out).trans (K7.out.mono H7.out.size)
  clear H5 H6 H7 K5 K6 K7
  go_wp2_with fail
  refine (hasPrefix_any _ _ _ _ _ R1.out R2.out).mono ?_
  rintro e w4 ⟨rfl, m2, rfl⟩
  rw [HK.out]
  go_wp2_with fail
  go_ret
  exact ⟨rfl, HBE.out.trans (drewN_below' _ _ _)⟩

end Go.Proofs.Qxb6003660a
