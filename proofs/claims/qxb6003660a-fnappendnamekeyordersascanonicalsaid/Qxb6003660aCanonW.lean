import Derived.Test.Qxb6003660aLabelsW
namespace Go.Proofs.Qxb6003660a
open Go.RowKit

/-- what the canonical comparison may use of a slice of labels -/
def LabCells (w : World) (ao : Option Addr) (ls : List (List UInt8)) : Prop :=
  ∀ j, (h : j < ls.length) → ∃ g, ao = some ⟨g, 0, none⟩ ∧ ∃ s : ByteArray, s.data.toList = ls[j] ∧ w.cell? ⟨g, j, none⟩ = some (.string s)

theorem labels_shape (n : ByteArray) (ls : List (List UInt8)) (w : World) (hn : n.data.toList = nm ls) (hg : Good ls) (h255 : n.size ≤ 255) :
    Calls Try.prog 15 #[.string n] w fun e w' => ∃ ao c, e = .returned (.slice ao ls.length c) ∧ ls.length ≤ c ∧ Hid (LabCells w' ao ls) ∧ Hid (Below w.heap.size w w') := by
  refine (labels_any n ls w hn hg h255).mono ?_
  rintro e w' ⟨v, ss, rfl, H1, H2, H3⟩
  have hl : ss.length = ls.length := by
    have := congrArg List.length H1.out
    rwa [List.length_map] at this
  rcases H2.out.2 with ⟨hv, hn0⟩ | ⟨g, cap, cur, hv, hb, hgh, hnc, hcm, hs, ht⟩
  · refine ⟨none, 0, by rw [hv, ← hl, hn0], by omega, ?_, H3⟩
    intro j h
    omega
  · refine ⟨some ⟨g, 0, none⟩, cap, by rw [hv, hl], by omega, ?_, H3⟩
    intro j h
    have hj : j < ss.length := by omega
    refine ⟨g, rfl, ss[j], ?_, ?_⟩
    · have := congrArg (fun l => l[j]?) H1.out
      simp only [List.getElem?_map] at this
      rw [List.getElem?_eq_getElem hj, List.getElem?_eq_getElem h] at this
      simpa using this
    · have h2 : w'.ownsRow w.heap.size 9 1 (.slice (some ⟨g, 0, none⟩) ss.length cap) ss.length (ss.map Value.string) := by rw [← hv]; exact H2.out
      rw [h2.cellAt j (by omega)]
      simp [hj]

theorem LabCells.later {w w' : World} {ao : Option Addr} {ls : List (List UInt8)} (h : LabCells w ao ls) (hb : Below w.heap.size w w') : LabCells w' ao ls := by
  intro j hj
  obtain ⟨g, e, s, e2, hc⟩ := h j hj
  exact ⟨g, e, s, e2, (hb.cell (cell_lt hc)).trans hc⟩

def revL (ls : List (List UInt8)) : List (List Int) := (lw ls).reverse
theorem revL_step (ls : List (List UInt8)) (a : Nat) (h : a < ls.length) : revL (ls.take (a + 1)) = ls[a].map lowU :: revL (ls.take a) := by
  unfold revL lw
  rw [List.take_succ_eq_append_getElem h, List.map_append, List.reverse_append]
  rfl

theorem canon_zero (b : List (List Int)) : canonC [] b = if b.length = 0 then 0 else -1 := by
  cases b <;> simp [canonC]
theorem canon_zero' (a : List (List Int)) (h : 0 < a.length) : canonC a [] = 1 := by
  cases a
  · simp at h
  · rfl
theorem revL_len (ls : List (List UInt8)) (a : Nat) (h : a ≤ ls.length) : (revL (ls.take a)).length = a := by
  simp [revL, lw]; omega

set_option maxHeartbeats 1000000 in
theorem canon_any (n m : ByteArray) (ls ms : List (List UInt8)) (w : World) (hn : n.data.toList = nm ls) (hg : Good ls) (h255 : n.size ≤ 255) (hm : m.data.toList = nm ms) (hgm : Good ms) (hm255 : m.size ≤ 255) :
    Calls Try.prog 18 #[.string n, .string m] w fun e w' => e = .returned (.int .i64 (canonC (revL ls) (revL ms))) ∧ Hid (Below w.heap.size w w') := by
  have HN := (show Hid _ from hn); clear hn
  have HG := (show Hid _ from hg); clear hg
  have HM := (show Hid _ from hm); clear hm
  have HGM := (show Hid _ from hgm); clear hgm
  have hls : ls.length ≤ 127 := by
    have := offAt_ge ls HG.out ls.length (Nat.le_refl _)
    obtain ⟨ho, _⟩ := at_end n ls HN.out
    omega
  have hms : ms.length ≤ 127 := by
    have := offAt_ge ms HGM.out ms.length (Nat.le_refl _)
    obtain ⟨ho, _⟩ := at_end m ms HM.out
    omega
  go_enter Try.func18, Try.ntmps18
  go_wp2_with fail
  refine (labels_shape n ls _ HN.out HG.out h255).mono ?_
  rintro e w1 ⟨ao, c1, rfl, hc1, H1, H2⟩
  go_wp2_with fail
  refine (labels_shape m ms _ HM.out HGM.out hm255).mono ?_
  rintro e w2 ⟨bo, c2, rfl, hc2, H3, H4⟩
  have H5 : Hid (LabCells w2 ao ls) := H1.out.later H4.out
  have H6 : Hid (Below w.heap.size w w2) := H2.out.trans (H4.out.mono H2.out.size)
  clear H1 H2 H4
  go_wp2_with fail
  go_loopw [7, 8] (fun i j wr => ∃ a b q : Nat, a ≤ ls.length ∧ b ≤ ms.length ∧ i = .int .i64 ((a : Int) - 1) ∧ j = .int .i64 ((b : Int) - 1) ∧ Hid (wr = w2.drewN q) ∧ Hid (canonC (revL ls) (revL ms) = canonC (revL (ls.take a)) (revL (ms.take b)))) (fun i _ _ => (intOf i + 1).toNat)
  case atStart => exact ⟨ls.length, ms.length, 0, by omega, by omega, rfl, rfl, rfl, by show _ = _; rw [List.take_length, List.take_length]⟩
  case round =>
    obtain ⟨a, b, q, ha, hb, rfl, rfl, HW, HR⟩ := hrel
    have la := revL_len ls a ha
    have lb := revL_len ms b hb
    cases a with
    | zero =>
      have e := HR.out
      rw [show revL (ls.take 0) = [] from rfl, canon_zero, lb] at e
      clear la lb
      cases b with
      | zero =>
        rw [if_pos rfl] at e
        have HE := (show Hid _ from e); clear e
        go_wp2
        go_ret
        exact ⟨ret_int HE.out.symm, by rw [HW.out]; exact H6.out.trans ⟨rfl, rfl, rfl, Nat.le_refl _, fun _ _ => rfl⟩⟩
      | succ b =>
        rw [if_neg (by omega)] at e
        have HE := (show Hid _ from e); clear e
        rw [show (((b + 1 : Nat) : Int) - 1) = (b : Int) by omega]
        go_wp2
        go_ret
        exact ⟨ret_int HE.out.symm, by rw [HW.out]; exact H6.out.trans ⟨rfl, rfl, rfl, Nat.le_refl _, fun _ _ => rfl⟩⟩
    | succ a =>
      rw [show (((a + 1 : Nat) : Int) - 1) = (a : Int) by omega]
      cases b with
      | zero =>
        have e := HR.out
        rw [show revL (ms.take 0) = [] from rfl, canon_zero' _ (by omega)] at e
        clear la lb
        have HE := (show Hid _ from e); clear e
        go_wp2
        go_ret
        exact ⟨ret_int HE.out.symm, by rw [HW.out]; exact H6.out.trans ⟨rfl, rfl, rfl, Nat.le_refl _, fun _ _ => rfl⟩⟩
      | succ b =>
        clear la lb
        rw [show (((b + 1 : Nat) : Int) - 1) = (b : Int) by omega]
        obtain ⟨g1, hao, s1, hs1, hcell1⟩ := H5.out a (by omega)
        obtain ⟨g2, hbo, s2, hs2, hcell2⟩ := H3.out b (by omega)
        have e := HR.out
        rw [revL_step ls a (by omega), revL_step ms b (by omega), ← hs1, ← hs2] at e
        have e2 : canonC (revL ls) (revL ms) = if cmpI (lwB s1) (lwB s2) ≠ 0 then cmpI (lwB s1) (lwB s2) else canonC (revL (ls.take a)) (revL (ms.take b)) := e
        clear e
        have z1 : s1.size ≤ 63 := by rw [← len_data, hs1]; exact (HG.out _ (List.getElem_mem _)).2
        have z2 : s2.size ≤ 63 := by rw [← len_data, hs2]; exact (HGM.out _ (List.getElem_mem _)).2
        have hx1 : wr.cell? ⟨g1, a, none⟩ = some (.string s1) := by rw [HW.out]; exact hcell1
        have hx2 : wr.cell? ⟨g2, b, none⟩ = some (.string s2) := by rw [HW.out]; exact hcell2
        clear hs1 hs2 hcell1 hcell2
        subst hao hbo
        obtain ⟨r, hr⟩ : ∃ r, cmpI (lwB s1) (lwB s2) = r := ⟨_, rfl⟩
        have hlc : ∀ wx : World, Calls Try.prog 35 #[.string s1, .string s2] wx fun e w' => e = .returned (.int .i64 r) ∧ w' = wx := by
          intro wx
          rw [← hr]
          exact labelCompare_any s1 s2 wx (by omega) (by omega)
        have HLC := (show Hid _ from hlc); clear hlc
        rw [hr] at e2
        clear hr
        by_cases hr0 : r = 0
        · have hb0 : (r != 0) = false := by simp [hr0]
          rw [if_neg (by simpa using hr0)] at e2
          have HE := (show Hid _ from e2); clear e2 hr0
          go_wp2
          go_quiet ((go_at_call 35; exact Calls.quiet_of_same (HLC.out _)))
          go_wp2
          go_roundw
          case rel => exact ⟨a, b, q + nq, by omega, by omega, rfl, rfl, by show _ = _; rw [HW.out, World.drewN_drewN], HE⟩
          case measure => simp [intOf]
        · have hb0 : (r != 0) = true := by simp [hr0]
          rw [if_pos hr0] at e2
          have HE := (show Hid _ from e2); clear e2 hr0
          go_wp2
          go_quiet ((go_at_call 35; exact Calls.quiet_of_same (HLC.out _)))
          go_wp2
          go_ret
          exact ⟨ret_int HE.out.symm, by rw [HW.out]; exact H6.out.trans ⟨rfl, rfl, rfl, Nat.le_refl _, fun _ _ => rfl⟩⟩

end Go.Proofs.Qxb6003660a
