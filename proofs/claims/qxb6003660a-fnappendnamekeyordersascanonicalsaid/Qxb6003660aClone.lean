import Derived.Test.Qxb6003660aSlices
import Derived.Lib.SliceRun
namespace Go.Proofs.Qxb6003660a
open Go.RowKit

/-- v is a slice that reads L in w, at whatever address -/
def Rd (w : World) (v : Value) (L : List Int) : Prop :=
  (v = .slice none 0 0 ∧ L = []) ∨ ∃ x cap, v = .slice (some x) L.length cap ∧ ∀ j, j < L.length → w.cell? (x.add j) = some (.int .u8 (L.getD j 0))

theorem Own8.rd {w : World} {base : Nat} {v : Value} {L : List Int} (h : Own8 w base v L) : Rd w v L := by
  rcases h.reads with h1 | ⟨g, off, cap, hv, _, _, hc⟩
  · exact .inl h1
  · exact .inr ⟨_, cap, hv, fun j hj => by rw [Addr.add_lit]; exact hc j hj⟩

/-- k of the numbers L are in place, the rest is zero -/
def fillTo (L : List Int) (k : Nat) : List Int := L.take k ++ List.replicate (L.length - k) 0
theorem fillTo_len (L : List Int) (k : Nat) (h : k ≤ L.length) : (fillTo L k).length = L.length := by
  simp [fillTo]; omega
theorem fillTo_zero (L : List Int) : fillTo L 0 = List.replicate L.length 0 := by simp [fillTo]
theorem fillTo_all (L : List Int) : fillTo L L.length = L := by simp [fillTo]
theorem fillTo_step (L : List Int) (k : Nat) (h : k < L.length) : (fillTo L k).set k (L.getD k 0) = fillTo L (k + 1) := by
  have ht : (L.take k).length = k := by rw [List.length_take]; omega
  unfold fillTo
  rw [List.set_append_right _ _ (by omega), ht, Nat.sub_self, List.take_succ_eq_append_getElem h, List.append_assoc]
  obtain ⟨m, hm⟩ : ∃ m, L.length - k = m + 1 := ⟨L.length - k - 1, by omega⟩
  have hm2 : L.length - (k + 1) = m := by omega
  rw [hm, hm2, List.replicate_succ]
  simp [List.getD, h]

theorem made_row (w : World) (n : Nat) : Row8 (w.alloc (.cells (madeCells #[Value.int .u8 0] n) 5)) w.heap.size 5 (List.replicate n 0) := by
  unfold Row8
  have e : (w.alloc (.cells (madeCells #[Value.int .u8 0] n) 5)).heap[w.heap.size]? = some (.cells (madeCells #[Value.int .u8 0] n) 5) := by
    show (w.heap.push _)[w.heap.size]? = some _
    simp
  rw [e]
  have e2 : madeCells #[Value.int .u8 0] n = ((List.replicate n (0 : Int)).map (Value.int .u8)).toArray := by
    apply Array.ext'
    rw [toList_madeCells_one]
    simp
  rw [e2]

theorem Row8.own {w : World} {g base : Nat} {L : List Int} (h : Row8 w g 5 L) (hb : base ≤ g) (hL : L.length ≤ maxLen) : Own8 w base (.slice (some ⟨g, 0, none⟩) L.length L.length) L := by
  refine ⟨by simp, .inr ⟨g, L.length, _, rfl, hb, h, Nat.le_refl _, hL, by simp, ?_⟩⟩
  rw [List.take_of_length_le (by simp)]

theorem cell_lt {w : World} {a : Addr} {v : Value} (h : w.cell? a = some v) : a.block < w.heap.size := by
  unfold World.cell? at h
  cases hh : w.heap[a.block]? with
  | none => rw [hh] at h; simp at h
  | some o => exact (Array.getElem?_eq_some_iff.1 hh).1

theorem row_set {w wr : World} {g k : Nat} {L : List Int} (HR : Hid (Row8 wr g 5 (fillTo L k))) (hb : Below g w wr) (hk : k < L.length) (x : Int) (hx : x = L.getD k 0) :
    Hid (Row8 (wr.setCell ⟨g, k, none⟩ (.int .u8 x)) g 5 (fillTo L (k + 1))) ∧ Below g w (wr.setCell ⟨g, k, none⟩ (.int .u8 x)) := by
  refine ⟨?_, hb.setCell (Nat.le_refl _) _⟩
  have := HR.out.set k x
  rw [hx, fillTo_step L k hk] at this
  rw [hx]
  exact this

set_option maxHeartbeats 400000 in
theorem clone_any (v : Value) (L : List Int) (w : World) (h : Rd w v L) (hL : L.length ≤ 2097152) :
    Calls Try.prog 11 #[v] w fun e w' => ∃ ao cap, e = .returned (.slice ao L.length cap) ∧ Hid (Own8 w' w.heap.size (.slice ao L.length cap) L) ∧ Hid (Below w.heap.size w w') := by
  rcases h with ⟨rfl, rfl⟩ | ⟨x, cap, rfl, hc⟩
  · have hq := Lib.run_eql_slice_nil (P := Try.prog) (t := 22) (e := 5) (h := Try.underlying22)
    go_enter Try.func11, Try.ntmps11
    go_wp2
    go_ret
    exact ⟨none, 0, rfl, World.ownsRow_nil _ _ _ _, Below.refl _ _⟩
  · have hq := Lib.run_eql_slice_nil (P := Try.prog) (t := 22) (e := 5) (h := Try.underlying22)
    obtain ⟨i0, hi, hz0, hz1, hz2⟩ := info_parts info5
    have hmk := run_make (P := Try.prog) w 22 5 i0 (.int .u8 0) Try.underlying22 hi hz0 .i64 .i64 (L.length : Int) (L.length : Int) (by omega) (by omega) (by rw [hz2]; omega) (by omega)
    rw [hz1] at hmk
    simp only [Int.toNat_natCast, Nat.mul_one] at hmk
    clear hi hz0 hz1 hz2
    have HC := (show Hid _ from hc); clear hc
    have hmr : Hid (Row8 (w.alloc (.cells (madeCells #[Value.int .u8 0] L.length) 5)) w.heap.size 5 (fillTo L 0)) := by
      have := made_row w L.length
      rw [← fillTo_zero] at this
      exact this
    go_enter Try.func11, Try.ntmps11
    go_wp2
    clear hmk hq
    go_loopw [4] (fun i wr => ∃ k : Nat, k ≤ L.length ∧ i = .int .i64 k ∧ Hid (Row8 wr w.heap.size 5 (fillTo L k)) ∧ Below w.heap.size w wr) (fun i _ => L.length - (intOf i).toNat)
    case atStart => exact ⟨0, by omega, rfl, hmr, (Below.refl _ _).alloc (Nat.le_refl _) _⟩
    case round =>
      obtain ⟨k, hk, rfl, HR, hb⟩ := hrel
      clear hmr
      by_cases h1 : k < L.length
      · have hx0 := HC.out k h1
        obtain ⟨b, off, spot⟩ := x
        have hspot : spot = none := by simpa [Addr.add] using World.cell?_spot (HC.out 0 (by omega))
        subst hspot
        rw [Addr.add_lit] at hx0
        have hx1 : wr.cell? ⟨b, off + k, none⟩ = some (.int .u8 (L.getD k 0)) := (hb.cell (cell_lt hx0)).trans hx0
        clear hx0
        have hcell := HR.out.cell k (by rw [fillTo_len _ _ hk]; exact h1)
        have hfz := HR.out.frozen k
        obtain ⟨y, hy⟩ : ∃ y, y = L.getD k 0 := ⟨_, rfl⟩
        rw [← hy] at hx1
        have HY := (show Hid _ from hy); clear hy
        generalize (fillTo L k).getD k 0 = z at hcell
        go_wp2
        go_roundw
        case rel => exact ⟨k + 1, by omega, by go_num, row_set HR hb h1 _ HY.out⟩
        case measure => simp [intOf]; omega
      · obtain rfl : k = L.length := by omega
        have HO : Hid (Own8 wr w.heap.size (.slice (some ⟨w.heap.size, 0, none⟩) L.length L.length) L) := by
          have := HR.out
          rw [fillTo_all] at this
          exact this.own (Nat.le_refl _) (by unfold maxLen; omega)
        go_wp2
        go_ret
        exact ⟨_, _, rfl, HO, hb⟩

end Go.Proofs.Qxb6003660a
