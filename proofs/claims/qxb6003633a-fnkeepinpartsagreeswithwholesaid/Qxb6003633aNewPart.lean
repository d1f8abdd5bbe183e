import Derived.Test.Qxb6003633aPart
namespace Go.Proofs.Qxb6003633a
open Go.RowKit Go.Maps
set_option linter.unusedVariables false

set_option maxHeartbeats 2000000 in
theorem newPart_nil (a0 a1 a2 a4 a5 : Option Addr) (c0 c1 c2 c3 c4 c5 : Nat) (M Li H R : List Int) (Ms : List ByteArray) (E : List Int) (w : World)
    (C0 : Cs (Value.int .i32) 0 w a0 M) (C1 : Cs (Value.int .u32) 0 w a1 Li) (C2 : Cs (Value.int .i64) 0 w a2 H) (C4 : Cs Value.string ByteArray.empty w a4 Ms) (C5 : Cs (Value.int .i64) 0 w a5 E)
    (hM : M.length ≤ 262144) (hLi : Li.length = M.length) (hH : H.length = M.length) (hE : E.length = Ms.length) (hMs : Ms.length ≤ 4096) :
    Calls Try.prog 28 #[.slice a0 M.length c0, .slice a1 Li.length c1, .slice a2 H.length c2, .slice none 0 c3, .slice a4 Ms.length c4, .slice a5 E.length c5] w fun e w' => ∃ p gr gu tv, e = .returned (.pointer (some ⟨p, 0, none⟩)) ∧ Hid (PartAt w' p gr gu tv M Li H R true Ms E) ∧ Hid (Nx w w') := by
  have hmk : Hid (∀ w : World, (Instr.makeSlice 78 (.int .i64 (M.length : Int)) (.int .i64 (M.length : Int))).run Try.prog w = .ok (.slice (some ⟨w.heap.size, 0, none⟩) M.length M.length) (w.alloc (.cells (madeCells #[.int .i32 0, .int .u32 0, .int .i64 0] (M.length * 3)) 80))) := by
    obtain ⟨i0, hi, hz0, hz1, hz2⟩ := info_parts info80
    intro w
    have := run_make (P := Try.prog) w 78 80 i0 _ Try.underlying78 hi hz0 .i64 .i64 (M.length : Int) (M.length : Int) (by omega) (by omega) (by rw [hz2]; omega) (by omega)
    rw [hz1] at this
    simp only [Int.toNat_natCast] at this
    exact this
  have hmu : Hid (∀ w : World, (Instr.makeSlice 82 (.int .i64 (Ms.length : Int)) (.int .i64 (Ms.length : Int))).run Try.prog w = .ok (.slice (some ⟨w.heap.size, 0, none⟩) Ms.length Ms.length) (w.alloc (.cells (madeCells #[.string ByteArray.empty, .int .i64 0, .bool false, .int .i64 0] (Ms.length * 4)) 84))) := by
    obtain ⟨i0, hi, hz0, hz1, hz2⟩ := info_parts info84
    intro w
    have := run_make (P := Try.prog) w 82 84 i0 _ Try.underlying82 hi hz0 .i64 .i64 (Ms.length : Int) (Ms.length : Int) (by omega) (by omega) (by rw [hz2]; omega) (by omega)
    rw [hz1] at this
    simp only [Int.toNat_natCast] at this
    exact this
  have hq := run_neq_slice_nil_any (P := Try.prog) (t := 42) (e := 2) (h := Try.underlying42)
  have HC0 := hid C0; have HC1 := hid C1; have HC2 := hid C2; have HC4 := hid C4; have HC5 := hid C5
  have HLi := hid hLi; have HH := hid hH; have HE := hid hE
  clear C0 C1 C2 C4 C5 hLi hH hE
  have hmk' := hmk.out
  clear hmk
  go_enter Try.func28, Try.ntmps28
  go_wp2
  clear hmk'
  go_loopw [14] (fun i wr => ∃ k : Nat, k ≤ M.length ∧ i = .int .i64 k ∧ Hid (Rows3 wr w.heap.size M Li H k) ∧ Hid (There wr w.heap.size (M.length * 3)) ∧ Hid (Tag wr w.heap.size 80) ∧ Below w.heap.size w wr) (fun i _ => M.length - (intOf i).toNat)
  case atStart => exact ⟨0, by omega, rfl, fun i hi => by omega, made_there _ _ _ _, Tag.made _ _ _, (Below.refl _ _).alloc (Nat.le_refl _) _⟩
  case round =>
    obtain ⟨j, hj, rfl, HR, HT, HG, hb⟩ := hrel
    by_cases h1 : j < M.length
    · have hj0 : (0 : Int) ≤ (j : Int) := by omega
      have hj1 : (j : Int) < (M.length : Int) := by omega
      have hj2 : (j : Int) < (Li.length : Int) := by have := HLi.out; omega
      have hj3 : (j : Int) < (H.length : Int) := by have := HH.out; omega
      obtain ⟨g0, o0, hx0, hc0⟩ := HC0.out j h1
      obtain ⟨g1, o1, hx1, hc1⟩ := HC1.out j (by have := HLi.out; omega)
      obtain ⟨g2, o2, hx2, hc2⟩ := HC2.out j (by have := HH.out; omega)
      have C0 := (hb.cell (cell_lt hc0)).trans hc0
      have C1 := (hb.cell (cell_lt hc1)).trans hc1
      have C2 := (hb.cell (cell_lt hc2)).trans hc2
      have N0 : ¬ w.heap.size = g0 := by have := cell_lt hc0; simp at this; omega
      have N1 : ¬ w.heap.size = g1 := by have := cell_lt hc1; simp at this; omega
      have N2 : ¬ w.heap.size = g2 := by have := cell_lt hc2; simp at this; omega
      clear hc0 hc1 hc2
      subst hx0 hx1 hx2
      generalize hx : M.getD j 0 = x at C0
      generalize hy : Li.getD j 0 = y at C1
      generalize hz : H.getD j 0 = z at C2
      have HX := hid hx.symm; have HY := hid hy.symm; have HZ := hid hz.symm
      clear hx hy hz
      obtain ⟨⟨x0, D0⟩, Z0⟩ := HT.out (j * 3) (by omega)
      obtain ⟨⟨x1, D1⟩, Z1⟩ := HT.out (j * 3 + 1) (by omega)
      obtain ⟨⟨x2, D2⟩, Z2⟩ := HT.out (j * 3 + 2) (by omega)
      go_wp2
      go_region_held3 (fun w' => w'.cell? ⟨g0, o0 + j, none⟩ = some (.int .i32 x) ∧ w'.cell? ⟨g1, o1 + j, none⟩ = some (.int .u32 y) ∧ w'.cell? ⟨g2, o2 + j, none⟩ = some (.int .i64 z)) (go_keep) (fail)
      go_wp2
      go_roundw
      case rel => exact ⟨j + 1, by omega, by go_num, HR.out.step HT.out (by omega) x y z HX.out HY.out HZ.out, ((HT.out.set _ _).set _ _).set _ _, ((HG.out.set _ _).set _ _).set _ _, (((hb.setCell (Nat.le_refl _) _).setCell (Nat.le_refl _) _).setCell (Nat.le_refl _) _).drew⟩
      case measure => simp [intOf]; omega
    · obtain rfl : j = M.length := by omega
      obtain ⟨w1, hw1⟩ : ∃ w1 : World, w1 = wr := ⟨_, rfl⟩
      subst hw1
      have HN1 : Hid (Nx w w1) := hb
      clear HT hb
      have hmu' := hmu.out
      clear hmu
      go_wp2
      go_loopw [18] (fun i wr => ∃ k : Nat, k ≤ Ms.length ∧ i = .int .i64 k ∧ Hid (Runs4 wr w1.heap.size Ms E k) ∧ Hid (There wr w1.heap.size (Ms.length * 4)) ∧ Hid (Tag wr w1.heap.size 84) ∧ Below w1.heap.size w1 wr) (fun i _ => Ms.length - (intOf i).toNat)
      case atStart => exact ⟨0, by omega, rfl, fun i hi => by omega, made_there _ _ _ _, Tag.made _ _ _, (Below.refl _ _).alloc (Nat.le_refl _) _⟩
      case round =>
        obtain ⟨j, hj, rfl, HR3, HT3, HG3, hb3⟩ := hrel
        by_cases h1 : j < Ms.length
        · have hj0 : (0 : Int) ≤ (j : Int) := by omega
          have hj1 : (j : Int) < (Ms.length : Int) := by omega
          have hj2 : (j : Int) < (E.length : Int) := by have := HE.out; omega
          obtain ⟨g4, o4, hx4, hc4⟩ := (HC4.out.later HN1.out) j h1
          obtain ⟨g5, o5, hx5, hc5⟩ := (HC5.out.later HN1.out) j (by have := HE.out; omega)
          have C4 := (hb3.cell (cell_lt hc4)).trans hc4
          have C5 := (hb3.cell (cell_lt hc5)).trans hc5
          have N4 : ¬ w1.heap.size = g4 := by have := cell_lt hc4; simp at this; omega
          have N5 : ¬ w1.heap.size = g5 := by have := cell_lt hc5; simp at this; omega
          clear hc4 hc5
          subst hx4 hx5
          generalize hx : Ms.getD j ByteArray.empty = x at C4
          generalize hy : E.getD j 0 = y at C5
          have HX := hid hx.symm; have HY := hid hy.symm
          clear hx hy
          obtain ⟨⟨x0, D0⟩, Z0⟩ := HT3.out (j * 4) (by omega)
          obtain ⟨⟨x1, D1⟩, Z1⟩ := HT3.out (j * 4 + 1) (by omega)
          obtain ⟨⟨x2, D2⟩, Z2⟩ := HT3.out (j * 4 + 2) (by omega)
          obtain ⟨⟨x3, D3⟩, Z3⟩ := HT3.out (j * 4 + 3) (by omega)
          go_wp2
          go_region_held3 (fun w' => w'.cell? ⟨g4, o4 + j, none⟩ = some (.string x) ∧ w'.cell? ⟨g5, o5 + j, none⟩ = some (.int .i64 y)) (go_keep) (fail)
          go_wp2
          go_roundw
          case rel => exact ⟨j + 1, by omega, by go_num, HR3.out.step HT3.out (by omega) x y HX.out HY.out, (((HT3.out.set _ _).set _ _).set _ _).set _ _, (((HG3.out.set _ _).set _ _).set _ _).set _ _, ((((hb3.setCell (Nat.le_refl _) _).setCell (Nat.le_refl _) _).setCell (Nat.le_refl _) _).setCell (Nat.le_refl _) _).drew⟩
          case measure => simp [intOf]; omega
        · obtain rfl : j = Ms.length := by omega
          go_wp2
          go_ret
          refine ⟨_, w.heap.size, w1.heap.size, .slice none 0 0, rfl, ?_⟩
          exact ⟨⟨alloc_last _ _, (HR.out.later (Nx.trans hb3 (Nx.alloc _ _))), .inl ⟨rfl, rfl⟩, HR3.out.later (Nx.alloc _ _), HG.out.later (Nx.trans hb3 (Nx.alloc _ _)), HG3.out.later (Nx.alloc _ _)⟩, Nx.trans (Nx.trans HN1.out hb3) (Nx.alloc _ _)⟩

end Go.Proofs.Qxb6003633a
