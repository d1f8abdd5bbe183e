import Derived.Test.Qxb6003633aPart
namespace Go.Proofs.Qxb6003633a
open Go.RowKit Go.Maps
set_option linter.unusedVariables false

theorem info4 : (Try.prog.info? 4).map (fun i => (i.zero, i.size, i.bytes)) = some (some (.bool false), 1, 1) := by kernel_rfl

/-- the member's bytes -/
def bOf (Ms : List ByteArray) (i : Nat) : List UInt8 := (Ms.getD i ByteArray.empty).data.toList
/-- no earlier member is the same -/
def isFirst (Ms : List ByteArray) (i : Nat) : Bool := !((List.range i).any (fun j => bOf Ms j == bOf Ms i))
def fillF (Ms : List ByteArray) (k : Nat) : List Bool := (List.range Ms.length).map (fun j => decide (j < k) && isFirst Ms j)
def dTo (Ms : List ByteArray) : Nat → Nat
  | 0 => 0
  | k + 1 => dTo Ms k + if isFirst Ms k then 1 else 0
theorem dTo_le (Ms : List ByteArray) (k : Nat) : dTo Ms k ≤ k := by
  induction k with
  | zero => simp [dTo]
  | succ k ih => simp only [dTo]; split <;> omega
theorem fillF_len (Ms : List ByteArray) (k : Nat) : (fillF Ms k).length = Ms.length := by simp [fillF]
theorem fillF_zero (Ms : List ByteArray) : fillF Ms 0 = List.replicate Ms.length false := by
  simp [fillF]
  apply List.ext_getElem
  · simp
  · intro i h1 h2; simp
theorem fillF_step (Ms : List ByteArray) (k : Nat) (v : Bool) (hk : k < Ms.length) : ((fillF Ms k).set k v).set k (isFirst Ms k) = fillF Ms (k + 1) := by
  rw [List.set_set]
  apply List.ext_getElem
  · simp [fillF]
  · intro i h1 h2
    rw [List.getElem_set]
    simp [fillF]
    by_cases e : k = i
    · subst e; simp
    · rw [if_neg e]
      have : decide (i < k) = decide (i < k + 1) := by rw [decide_eq_decide]; omega
      rw [this]
theorem fillF_at (Ms : List ByteArray) (k i : Nat) (hi : i < Ms.length) (hk : i < k) : (fillF Ms k).getD i false = isFirst Ms i := by
  simp [fillF, List.getD, hi, hk]
theorem isFirst_false {Ms : List ByteArray} {i j : Nat} (h : j < i) (e : bOf Ms j = bOf Ms i) : isFirst Ms i = false := by
  unfold isFirst
  rw [Bool.not_eq_false', List.any_eq_true]
  exact ⟨j, by simpa using h, by simpa using e⟩
theorem isFirst_true {Ms : List ByteArray} {i : Nat} (h : ∀ j, j < i → bOf Ms j ≠ bOf Ms i) : isFirst Ms i = true := by
  unfold isFirst
  rw [Bool.not_eq_true', Bool.eq_false_iff]
  intro hh
  rw [List.any_eq_true] at hh
  obtain ⟨j, h1, h2⟩ := hh
  exact h j (by simpa using h1) (by simpa using h2)

set_option maxHeartbeats 2000000 in
theorem firsts29 (a4 : Option Addr) (c4 : Nat) (Ms : List ByteArray) (w : World) (h : Cs Value.string ByteArray.empty w a4 Ms) (hMs : Ms.length ≤ 4096) :
    Calls Try.prog 29 #[.slice a4 Ms.length c4] w fun e w' => ∃ g, e = .returned (.tuple #[.slice (some ⟨g, 0, none⟩) Ms.length Ms.length, .int .i64 (dTo Ms Ms.length : Int)]) ∧ Hid (RowF Value.bool w' g 4 (fillF Ms Ms.length)) ∧ Hid (Nx w w') := by
  have hmk : ∀ w : World, (Instr.makeSlice 56 (.int .i64 (Ms.length : Int)) (.int .i64 (Ms.length : Int))).run Try.prog w = .ok (.slice (some ⟨w.heap.size, 0, none⟩) Ms.length Ms.length) (w.alloc (.cells (madeCells #[.bool false] Ms.length) 4)) := by
    obtain ⟨i0, hi, hz0, hz1, hz2⟩ := info_parts info4
    intro w
    have := run_make (P := Try.prog) w 56 4 i0 _ Try.underlying56 hi hz0 .i64 .i64 (Ms.length : Int) (Ms.length : Int) (by omega) (by omega) (by rw [hz2]; omega) (by omega)
    rw [hz1] at this
    simp only [Int.toNat_natCast, Nat.mul_one] at this
    exact this
  have HC := hid h; clear h
  have hmr : Hid (RowF Value.bool (w.alloc (.cells (madeCells #[.bool false] Ms.length) 4)) w.heap.size 4 (fillF Ms 0)) := by
    have := made_row Value.bool false w Ms.length 4
    rw [← fillF_zero] at this
    exact this
  go_enter Try.func29, Try.ntmps29
  go_wp2
  clear hmk
  go_loopw [5, 6] (fun d i wr => ∃ k : Nat, k ≤ Ms.length ∧ i = .int .i64 k ∧ d = .int .i64 ((dTo Ms k : Nat) : Int) ∧ Hid (RowF Value.bool wr w.heap.size 4 (fillF Ms k)) ∧ Below w.heap.size w wr) (fun _ i _ => Ms.length - (intOf i).toNat)
  case atStart => exact ⟨0, by omega, rfl, rfl, hmr, (Below.refl _ _).alloc (Nat.le_refl _) _⟩
  case round =>
    obtain ⟨k, hk, rfl, rfl, HR, hb⟩ := hrel
    clear hmr
    have hdl := dTo_le Ms k
    by_cases h1 : k < Ms.length
    · have hk0 : (0 : Int) ≤ (k : Int) := by omega
      have hk1 : (k : Int) < (Ms.length : Int) := by omega
      have hcell := HR.out.cell false k (by rw [fillF_len]; exact h1)
      have hfz := HR.out.frozen k
      generalize (fillF Ms k).getD k false = z at hcell
      go_wp2
      have HR2 : Hid (RowF Value.bool (wr.setCell ⟨w.heap.size, k, none⟩ (.bool true)) w.heap.size 4 ((fillF Ms k).set k true)) := HR.out.set k true
      have hb2 : Below w.heap.size w (wr.setCell ⟨w.heap.size, k, none⟩ (.bool true)) := hb.setCell (Nat.le_refl _) _
      generalize wr.setCell ⟨w.heap.size, k, none⟩ (.bool true) = w1 at *
      clear HR hb hcell hfz
      obtain ⟨g4, o4, hx4, hck⟩ := HC.out k h1
      subst hx4
      have HCK := hid hck
      have hck1 : w1.cell? ⟨g4, o4 + k, none⟩ = some (Value.string (Ms.getD k ByteArray.empty)) := (hb2.cell (cell_lt hck)).trans hck
      have HCJ : Hid (∀ j, j < Ms.length → w1.cell? ⟨g4, o4 + j, none⟩ = some (Value.string (Ms.getD j ByteArray.empty))) := by
        intro j hj
        obtain ⟨g, o, e, hc⟩ := HC.out j hj
        have e' := Option.some.inj e
        injection e' with e1 e2
        subst e1 e2
        exact (hb2.cell (cell_lt hc)).trans hc
      clear hck HCK
      go_loopw [7] (fun i wr => ∃ j q : Nat, j ≤ k ∧ i = .int .i64 j ∧ Hid (wr = w1.drewN q) ∧ Hid (∀ t, t < j → bOf Ms t ≠ bOf Ms k)) (fun i _ => k - (intOf i).toNat)
      case atStart => exact ⟨0, 0, by omega, rfl, rfl, fun t ht => by omega⟩
      case round =>
        obtain ⟨j, q, hj, rfl, HW, HN⟩ := hrel
        by_cases h2 : j < k
        · have hj0 : (0 : Int) ≤ (j : Int) := by omega
          have hj1 : (j : Int) < (Ms.length : Int) := by omega
          have hx1 : wr.cell? ⟨g4, o4 + j, none⟩ = some (Value.string (Ms.getD j ByteArray.empty)) := by rw [HW.out]; exact HCJ.out j (by omega)
          have hx2 : wr.cell? ⟨g4, o4 + k, none⟩ = some (Value.string (Ms.getD k ByteArray.empty)) := by rw [HW.out]; exact hck1
          by_cases he : bOf Ms j = bOf Ms k
          · have hbe : ((Ms.getD j ByteArray.empty).toList == (Ms.getD k ByteArray.empty).toList) = true := by
              rw [ByteArray.toList_eq, ByteArray.toList_eq]; exact beq_iff_eq.2 he
            have HF := hid (isFirst_false h2 he)
            clear he
            have hf1 : wr.frozen? ⟨w.heap.size, k, none⟩ = false := by rw [HW.out]; exact HR2.out.frozen k
            have hc1 : wr.cell? ⟨w.heap.size, k, none⟩ = some (.bool true) := by
              rw [HW.out]
              have := HR2.out.cell false k (by rw [List.length_set, fillF_len]; exact h1)
              simpa [List.getD, fillF_len, h1] using this
            generalize Ms.getD j ByteArray.empty = x at *
            generalize Ms.getD k ByteArray.empty = y at *
            go_wp2
            go_quiet (fail)
            go_wp2
            have HR3 : Hid (RowF Value.bool ((wr.drewN nq).setCell ⟨w.heap.size, k, none⟩ (.bool false)) w.heap.size 4 (fillF Ms (k + 1))) := by
              have h3 : RowF Value.bool (wr.drewN nq) w.heap.size 4 ((fillF Ms k).set k true) := by rw [HW.out]; exact HR2.out
              have := h3.set k false
              rw [← HF.out, fillF_step Ms k true h1] at this
              rw [← HF.out]; exact this
            have hb3 : Below w.heap.size w ((wr.drewN nq).setCell ⟨w.heap.size, k, none⟩ (.bool false)) := by
              have h5 : Below w.heap.size w (wr.drewN nq) := by
                rw [HW.out]
                exact hb2.trans ⟨rfl, rfl, rfl, Nat.le_refl _, fun _ _ => rfl⟩
              exact Below.setCell (p := ⟨w.heap.size, k, none⟩) h5 (Nat.le_refl _) _
            have hd1 : dTo Ms (k + 1) = dTo Ms k := by simp [dTo, HF.out]
            have HD1 := hid hd1; clear hd1
            go_roundw
            case rel => exact ⟨k + 1, by omega, by go_num, by rw [HD1.out], HR3, hb3⟩
            case measure => simp [intOf]; omega
          · have hbe : ((Ms.getD j ByteArray.empty).toList == (Ms.getD k ByteArray.empty).toList) = false := by
              rw [ByteArray.toList_eq, ByteArray.toList_eq]; exact beq_eq_false_iff_ne.2 he
            have HE := hid he; clear he
            generalize Ms.getD j ByteArray.empty = x at *
            generalize Ms.getD k ByteArray.empty = y at *
            go_wp2
            go_quiet (fail)
            go_wp2
            go_roundw
            case rel =>
              refine ⟨j + 1, q + nq, by omega, by go_num, by show _ = _; rw [HW.out, World.drewN_drewN], fun t ht => ?_⟩
              by_cases et : t = j
              · subst et; exact HE.out
              · exact HN.out t (by omega)
            case measure => simp [intOf]; omega
        · obtain rfl : j = k := by omega
          have HF := hid (isFirst_true HN.out)
          have hc1 : wr.cell? ⟨w.heap.size, j, none⟩ = some (.bool true) := by
            rw [HW.out]
            have := HR2.out.cell false j (by rw [List.length_set, fillF_len]; exact h1)
            simpa [List.getD, fillF_len, h1] using this
          have HR3 : Hid (RowF Value.bool wr w.heap.size 4 (fillF Ms (j + 1))) := by
            have h3 : RowF Value.bool wr w.heap.size 4 ((fillF Ms j).set j true) := by rw [HW.out]; exact HR2.out
            have h4 := fillF_step Ms j true h1
            rw [HF.out, List.set_set] at h4
            rw [← h4]; exact h3
          have hb3 : Below w.heap.size w wr := by
            rw [HW.out]
            exact hb2.trans ⟨rfl, rfl, rfl, Nat.le_refl _, fun _ _ => rfl⟩
          have hd1 : dTo Ms (j + 1) = dTo Ms j + 1 := by simp [dTo, HF.out]
          have HD1 := hid hd1; clear hd1
          go_wp2
          go_roundw
          case rel => exact ⟨j + 1, by omega, by go_num, by rw [HD1.out]; go_num, HR3, hb3⟩
          case measure => simp [intOf]; omega
    · obtain rfl : k = Ms.length := by omega
      go_wp2
      go_ret2
      exact ⟨_, rfl, HR, hb⟩

end Go.Proofs.Qxb6003633a
