import Derived.Test.Qxb6003660aClone
namespace Go.Proofs.Qxb6003660a
open Go.RowKit

theorem Reads8.form {w : World} {v : Value} {L : List Int} (h : Reads8 w v L) : ∃ ao c, v = .slice ao L.length c ∧ L.length ≤ c ∧ c ≤ 9223372036854775807 ∧ Hid (0 < L.length → ∃ g off, ao = some ⟨g, off, none⟩ ∧ ∀ j, j < L.length → w.cell? ⟨g, off + j, none⟩ = some (.int .u8 (L.getD j 0))) := by
  rcases h with ⟨rfl, rfl⟩ | ⟨g, off, cap, rfl, h1, h2, h3⟩
  · exact ⟨none, 0, rfl, Nat.le_refl _, by omega, fun h => absurd h (by simp)⟩
  · unfold maxLen at h2
    exact ⟨_, cap, rfl, h1, by omega, fun _ => ⟨g, off, rfl, h3⟩⟩

theorem getD_left (A B : List Int) (k : Nat) (h : k < A.length) : (A ++ B).getD k 0 = A.getD k 0 := by
  simp [List.getD, List.getElem?_append_left h]
theorem getD_right (A B : List Int) (k : Nat) : (A ++ B).getD (A.length + k) 0 = B.getD k 0 := by
  rw [List.getD, List.getD, List.getElem?_append_right (by omega), Nat.add_sub_cancel_left]

set_option maxHeartbeats 1000000 in
theorem concat_any (s t : Value) (A B : List Int) (w : World) (hs : Reads8 w s A) (ht : Reads8 w t B) (hA : A.length ≤ 2097152) (hB : B.length ≤ 2097152) :
    Calls Try.prog 21 #[s, t] w fun e w' => ∃ g N, e = .returned (.slice (some ⟨g, 0, none⟩) N N) ∧ Hid (N = (A ++ B).length) ∧ Hid (Own8 w' w.heap.size (.slice (some ⟨g, 0, none⟩) N N) (A ++ B)) ∧ Hid (Below w.heap.size w w') := by
  obtain ⟨ao, c1, hv1, _, _, HSA⟩ := hs.form
  obtain ⟨bo, c2, hv2, _, _, HSB⟩ := ht.form
  clear hs ht
  subst hv1 hv2
  obtain ⟨i0, hi, hz0, hz1, hz2⟩ := info_parts info5
  have hmk := run_make (P := Try.prog) w 22 5 i0 (.int .u8 0) Try.underlying22 hi hz0 .i64 .i64 ((A.length : Int) + (B.length : Int)) ((A.length : Int) + (B.length : Int)) (by omega) (by omega) (by rw [hz2]; omega) (by omega)
  rw [hz1, show ((A.length : Int) + (B.length : Int)).toNat = A.length + B.length by omega] at hmk
  simp only [Nat.mul_one] at hmk
  clear hi hz0 hz1 hz2
  have hmr : Hid (Row8 (w.alloc (.cells (madeCells #[Value.int .u8 0] (A.length + B.length)) 5)) w.heap.size 5 (fillTo (A ++ B) 0)) := by
    have := made_row w (A.length + B.length)
    rw [← List.length_append, ← fillTo_zero] at this
    rw [← List.length_append]
    exact this
  go_enter Try.func21, Try.ntmps21
  go_wp2
  clear hmk
  go_loopw [6] (fun i wr => ∃ k : Nat, k ≤ A.length ∧ i = .int .i64 k ∧ Hid (Row8 wr w.heap.size 5 (fillTo (A ++ B) k)) ∧ Below w.heap.size w wr) (fun i _ => A.length - (intOf i).toNat)
  case atStart => exact ⟨0, by omega, rfl, hmr, (Below.refl _ _).alloc (Nat.le_refl _) _⟩
  case round =>
    obtain ⟨k, hk, rfl, HR, hb⟩ := hrel
    clear hmr
    by_cases h1 : k < A.length
    · obtain ⟨g, off, hao, hc⟩ := HSA.out (by omega)
      have hx0 := hc k h1
      have hx1 : wr.cell? ⟨g, off + k, none⟩ = some (.int .u8 (A.getD k 0)) := (hb.cell (cell_lt hx0)).trans hx0
      clear hx0 hc
      subst hao
      have hcell := HR.out.cell k (by rw [fillTo_len _ _ (by rw [List.length_append]; omega), List.length_append]; omega)
      have hfz := HR.out.frozen k
      obtain ⟨y, hy⟩ : ∃ y, y = A.getD k 0 := ⟨_, rfl⟩
      rw [← hy] at hx1
      rw [← getD_left A B k h1] at hy
      have HY := (show Hid _ from hy); clear hy
      generalize (fillTo (A ++ B) k).getD k 0 = z at hcell
      go_wp2
      go_roundw
      case rel => exact ⟨k + 1, by omega, by go_num, row_set HR hb (by rw [List.length_append]; omega) _ HY.out⟩
      case measure => simp [intOf]; omega
    · obtain rfl : k = A.length := by omega
      go_wp2
      go_loopw [7] (fun i wr => ∃ k : Nat, k ≤ B.length ∧ i = .int .i64 k ∧ Hid (Row8 wr w.heap.size 5 (fillTo (A ++ B) (A.length + k))) ∧ Below w.heap.size w wr) (fun i _ => B.length - (intOf i).toNat)
      case atStart => exact ⟨0, by omega, rfl, HR, hb⟩
      case round =>
        clear HR hb
        obtain ⟨k, hk, rfl, HR, hb⟩ := hrel
        by_cases h1 : k < B.length
        · obtain ⟨g, off, hao, hc⟩ := HSB.out (by omega)
          have hx0 := hc k h1
          have hx1 : wr.cell? ⟨g, off + k, none⟩ = some (.int .u8 (B.getD k 0)) := (hb.cell (cell_lt hx0)).trans hx0
          clear hx0 hc
          subst hao
          have hcell := HR.out.cell (A.length + k) (by rw [fillTo_len _ _ (by rw [List.length_append]; omega), List.length_append]; omega)
          have hfz := HR.out.frozen (A.length + k)
          obtain ⟨y, hy⟩ : ∃ y, y = B.getD k 0 := ⟨_, rfl⟩
          rw [← hy] at hx1
          rw [← getD_right A B k] at hy
          have HY := (show Hid _ from hy); clear hy
          generalize (fillTo (A ++ B) (A.length + k)).getD (A.length + k) 0 = z at hcell
          go_wp2
          go_roundw
          case rel => exact ⟨k + 1, by omega, by go_num, row_set HR hb (by rw [List.length_append]; omega) _ HY.out⟩
          case measure => simp [intOf]; omega
        · obtain rfl : k = B.length := by omega
          have HO : Hid (Own8 wr w.heap.size (.slice (some ⟨w.heap.size, 0, none⟩) (A.length + B.length) (A.length + B.length)) (A ++ B)) := by
            have := HR.out
            rw [← List.length_append, fillTo_all] at this
            rw [← List.length_append]
            exact this.own (Nat.le_refl _) (by rw [List.length_append]; unfold maxLen; omega)
          go_wp2
          go_ret
          exact ⟨_, _, rfl, by show _ = _; rw [List.length_append], HO, hb⟩

end Go.Proofs.Qxb6003660a
