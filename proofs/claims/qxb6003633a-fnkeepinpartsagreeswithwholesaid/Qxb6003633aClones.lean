import Derived.Test.Qxb6003633aBase
namespace Go.Proofs.Qxb6003633a
open Go.RowKit

set_option maxHeartbeats 400000 in
theorem clone21 (ao : Option Addr) (L : List Int) (cap : Nat) (w : World) (h : Cs (Value.int .i32) (0 : Int) w ao L) (hL : L.length ≤ 1048576) :
    Calls Try.prog 21 #[.slice ao L.length cap] w fun e w' => ∃ bo c, e = .returned (.slice bo L.length c) ∧ bo.isNone = ao.isNone ∧ L.length ≤ c ∧ c ≤ 1048576 ∧ Hid (Cs (Value.int .i32) (0 : Int) w' bo L) ∧ Hid (Nx w w') := by
  have hq := Lib.run_eql_slice_nil (P := Try.prog) (t := 40) (e := 21) (h := Try.underlying40)
  cases ao with
  | none =>
    have h0 := h.none_nil
    have hnil : L = [] := List.eq_nil_of_length_eq_zero h0
    subst hnil
    go_enter Try.func21, Try.ntmps21
    go_wp2
    go_ret
    exact ⟨none, 0, rfl, rfl, Nat.le_refl _, by omega, fun j hj => by simp at hj, Nx.refl _⟩
  | some x =>
    obtain ⟨i0, hi, hz0, hz1, hz2⟩ := info_parts info21
    have hmk := run_make (P := Try.prog) w 40 21 i0 ((Value.int .i32) (0 : Int)) Try.underlying40 hi hz0 .i64 .i64 (L.length : Int) (L.length : Int) (by omega) (by omega) (by rw [hz2]; omega) (by omega)
    rw [hz1] at hmk
    simp only [Int.toNat_natCast, Nat.mul_one] at hmk
    clear hi hz0 hz1 hz2
    have HC := hid h; clear h
    have hmr : Hid (RowF (Value.int .i32) (w.alloc (.cells (madeCells #[(Value.int .i32) (0 : Int)] L.length) 21)) w.heap.size 21 (fillTo (0 : Int) L 0)) := by
      have := made_row (Value.int .i32) (0 : Int) w L.length 21
      rw [← fillTo_zero] at this
      exact this
    go_enter Try.func21, Try.ntmps21
    go_wp2
    clear hmk hq
    go_loopw [4] (fun i wr => ∃ k : Nat, k ≤ L.length ∧ i = .int .i64 k ∧ Hid (RowF (Value.int .i32) wr w.heap.size 21 (fillTo (0 : Int) L k)) ∧ Below w.heap.size w wr) (fun i _ => L.length - (intOf i).toNat)
    case atStart => exact ⟨0, by omega, rfl, hmr, (Below.refl _ _).alloc (Nat.le_refl _) _⟩
    case round =>
      obtain ⟨k, hk, rfl, HR, hb⟩ := hrel
      clear hmr
      by_cases h1 : k < L.length
      · obtain ⟨g, off, hx, hx0⟩ := HC.out k h1
        have hx' := Option.some.inj hx
        subst hx'
        have hx1 : wr.cell? ⟨g, off + k, none⟩ = some ((Value.int .i32) (L.getD k (0 : Int))) := (hb.cell (cell_lt hx0)).trans hx0
        clear hx0 hx
        have hcell := HR.out.cell (0 : Int) k (by rw [fillTo_len _ _ _ hk]; exact h1)
        have hfz := HR.out.frozen k
        obtain ⟨y, hy⟩ : ∃ y, y = L.getD k (0 : Int) := ⟨_, rfl⟩
        rw [← hy] at hx1
        have HY := hid hy; clear hy
        generalize (fillTo (0 : Int) L k).getD k (0 : Int) = z at hcell
        go_wp2
        go_roundw
        case rel => exact ⟨k + 1, by omega, by go_num, row_set (f := (Value.int .i32)) HR hb h1 _ HY.out⟩
        case measure => simp [intOf]; omega
      · obtain rfl : k = L.length := by omega
        have HO : Hid (Cs (Value.int .i32) (0 : Int) wr (some ⟨w.heap.size, 0, none⟩) L) := by
          have := HR.out
          rw [fillTo_all] at this
          exact this.cs _
        go_wp2
        go_ret
        exact ⟨_, _, rfl, rfl, Nat.le_refl _, hL, HO, hb⟩

set_option maxHeartbeats 400000 in
theorem clone22 (ao : Option Addr) (L : List Int) (cap : Nat) (w : World) (h : Cs (Value.int .u32) (0 : Int) w ao L) (hL : L.length ≤ 1048576) :
    Calls Try.prog 22 #[.slice ao L.length cap] w fun e w' => ∃ bo c, e = .returned (.slice bo L.length c) ∧ bo.isNone = ao.isNone ∧ L.length ≤ c ∧ c ≤ 1048576 ∧ Hid (Cs (Value.int .u32) (0 : Int) w' bo L) ∧ Hid (Nx w w') := by
  have hq := Lib.run_eql_slice_nil (P := Try.prog) (t := 41) (e := 65) (h := Try.underlying41)
  cases ao with
  | none =>
    have h0 := h.none_nil
    have hnil : L = [] := List.eq_nil_of_length_eq_zero h0
    subst hnil
    go_enter Try.func22, Try.ntmps22
    go_wp2
    go_ret
    exact ⟨none, 0, rfl, rfl, Nat.le_refl _, by omega, fun j hj => by simp at hj, Nx.refl _⟩
  | some x =>
    obtain ⟨i0, hi, hz0, hz1, hz2⟩ := info_parts info65
    have hmk := run_make (P := Try.prog) w 41 65 i0 ((Value.int .u32) (0 : Int)) Try.underlying41 hi hz0 .i64 .i64 (L.length : Int) (L.length : Int) (by omega) (by omega) (by rw [hz2]; omega) (by omega)
    rw [hz1] at hmk
    simp only [Int.toNat_natCast, Nat.mul_one] at hmk
    clear hi hz0 hz1 hz2
    have HC := hid h; clear h
    have hmr : Hid (RowF (Value.int .u32) (w.alloc (.cells (madeCells #[(Value.int .u32) (0 : Int)] L.length) 65)) w.heap.size 65 (fillTo (0 : Int) L 0)) := by
      have := made_row (Value.int .u32) (0 : Int) w L.length 65
      rw [← fillTo_zero] at this
      exact this
    go_enter Try.func22, Try.ntmps22
    go_wp2
    clear hmk hq
    go_loopw [4] (fun i wr => ∃ k : Nat, k ≤ L.length ∧ i = .int .i64 k ∧ Hid (RowF (Value.int .u32) wr w.heap.size 65 (fillTo (0 : Int) L k)) ∧ Below w.heap.size w wr) (fun i _ => L.length - (intOf i).toNat)
    case atStart => exact ⟨0, by omega, rfl, hmr, (Below.refl _ _).alloc (Nat.le_refl _) _⟩
    case round =>
      obtain ⟨k, hk, rfl, HR, hb⟩ := hrel
      clear hmr
      by_cases h1 : k < L.length
      · obtain ⟨g, off, hx, hx0⟩ := HC.out k h1
        have hx' := Option.some.inj hx
        subst hx'
        have hx1 : wr.cell? ⟨g, off + k, none⟩ = some ((Value.int .u32) (L.getD k (0 : Int))) := (hb.cell (cell_lt hx0)).trans hx0
        clear hx0 hx
        have hcell := HR.out.cell (0 : Int) k (by rw [fillTo_len _ _ _ hk]; exact h1)
        have hfz := HR.out.frozen k
        obtain ⟨y, hy⟩ : ∃ y, y = L.getD k (0 : Int) := ⟨_, rfl⟩
        rw [← hy] at hx1
        have HY := hid hy; clear hy
        generalize (fillTo (0 : Int) L k).getD k (0 : Int) = z at hcell
        go_wp2
        go_roundw
        case rel => exact ⟨k + 1, by omega, by go_num, row_set (f := (Value.int .u32)) HR hb h1 _ HY.out⟩
        case measure => simp [intOf]; omega
      · obtain rfl : k = L.length := by omega
        have HO : Hid (Cs (Value.int .u32) (0 : Int) wr (some ⟨w.heap.size, 0, none⟩) L) := by
          have := HR.out
          rw [fillTo_all] at this
          exact this.cs _
        go_wp2
        go_ret
        exact ⟨_, _, rfl, rfl, Nat.le_refl _, hL, HO, hb⟩

set_option maxHeartbeats 400000 in
theorem clone23 (ao : Option Addr) (L : List Int) (cap : Nat) (w : World) (h : Cs (Value.int .i64) (0 : Int) w ao L) (hL : L.length ≤ 1048576) :
    Calls Try.prog 23 #[.slice ao L.length cap] w fun e w' => ∃ bo c, e = .returned (.slice bo L.length c) ∧ bo.isNone = ao.isNone ∧ L.length ≤ c ∧ c ≤ 1048576 ∧ Hid (Cs (Value.int .i64) (0 : Int) w' bo L) ∧ Hid (Nx w w') := by
  have hq := Lib.run_eql_slice_nil (P := Try.prog) (t := 42) (e := 2) (h := Try.underlying42)
  cases ao with
  | none =>
    have h0 := h.none_nil
    have hnil : L = [] := List.eq_nil_of_length_eq_zero h0
    subst hnil
    go_enter Try.func23, Try.ntmps23
    go_wp2
    go_ret
    exact ⟨none, 0, rfl, rfl, Nat.le_refl _, by omega, fun j hj => by simp at hj, Nx.refl _⟩
  | some x =>
    obtain ⟨i0, hi, hz0, hz1, hz2⟩ := info_parts info2
    have hmk := run_make (P := Try.prog) w 42 2 i0 ((Value.int .i64) (0 : Int)) Try.underlying42 hi hz0 .i64 .i64 (L.length : Int) (L.length : Int) (by omega) (by omega) (by rw [hz2]; omega) (by omega)
    rw [hz1] at hmk
    simp only [Int.toNat_natCast, Nat.mul_one] at hmk
    clear hi hz0 hz1 hz2
    have HC := hid h; clear h
    have hmr : Hid (RowF (Value.int .i64) (w.alloc (.cells (madeCells #[(Value.int .i64) (0 : Int)] L.length) 2)) w.heap.size 2 (fillTo (0 : Int) L 0)) := by
      have := made_row (Value.int .i64) (0 : Int) w L.length 2
      rw [← fillTo_zero] at this
      exact this
    go_enter Try.func23, Try.ntmps23
    go_wp2
    clear hmk hq
    go_loopw [4] (fun i wr => ∃ k : Nat, k ≤ L.length ∧ i = .int .i64 k ∧ Hid (RowF (Value.int .i64) wr w.heap.size 2 (fillTo (0 : Int) L k)) ∧ Below w.heap.size w wr) (fun i _ => L.length - (intOf i).toNat)
    case atStart => exact ⟨0, by omega, rfl, hmr, (Below.refl _ _).alloc (Nat.le_refl _) _⟩
    case round =>
      obtain ⟨k, hk, rfl, HR, hb⟩ := hrel
      clear hmr
      by_cases h1 : k < L.length
      · obtain ⟨g, off, hx, hx0⟩ := HC.out k h1
        have hx' := Option.some.inj hx
        subst hx'
        have hx1 : wr.cell? ⟨g, off + k, none⟩ = some ((Value.int .i64) (L.getD k (0 : Int))) := (hb.cell (cell_lt hx0)).trans hx0
        clear hx0 hx
        have hcell := HR.out.cell (0 : Int) k (by rw [fillTo_len _ _ _ hk]; exact h1)
        have hfz := HR.out.frozen k
        obtain ⟨y, hy⟩ : ∃ y, y = L.getD k (0 : Int) := ⟨_, rfl⟩
        rw [← hy] at hx1
        have HY := hid hy; clear hy
        generalize (fillTo (0 : Int) L k).getD k (0 : Int) = z at hcell
        go_wp2
        go_roundw
        case rel => exact ⟨k + 1, by omega, by go_num, row_set (f := (Value.int .i64)) HR hb h1 _ HY.out⟩
        case measure => simp [intOf]; omega
      · obtain rfl : k = L.length := by omega
        have HO : Hid (Cs (Value.int .i64) (0 : Int) wr (some ⟨w.heap.size, 0, none⟩) L) := by
          have := HR.out
          rw [fillTo_all] at this
          exact this.cs _
        go_wp2
        go_ret
        exact ⟨_, _, rfl, rfl, Nat.le_refl _, hL, HO, hb⟩

set_option maxHeartbeats 400000 in
theorem clone25 (ao : Option Addr) (L : List Int) (cap : Nat) (w : World) (h : Cs (Value.int .i64) (0 : Int) w ao L) (hL : L.length ≤ 1048576) :
    Calls Try.prog 25 #[.slice ao L.length cap] w fun e w' => ∃ bo c, e = .returned (.slice bo L.length c) ∧ bo.isNone = ao.isNone ∧ L.length ≤ c ∧ c ≤ 1048576 ∧ Hid (Cs (Value.int .i64) (0 : Int) w' bo L) ∧ Hid (Nx w w') := by
  have hq := Lib.run_eql_slice_nil (P := Try.prog) (t := 44) (e := 3) (h := Try.underlying44)
  cases ao with
  | none =>
    have h0 := h.none_nil
    have hnil : L = [] := List.eq_nil_of_length_eq_zero h0
    subst hnil
    go_enter Try.func25, Try.ntmps25
    go_wp2
    go_ret
    exact ⟨none, 0, rfl, rfl, Nat.le_refl _, by omega, fun j hj => by simp at hj, Nx.refl _⟩
  | some x =>
    obtain ⟨i0, hi, hz0, hz1, hz2⟩ := info_parts info3
    have hmk := run_make (P := Try.prog) w 44 3 i0 ((Value.int .i64) (0 : Int)) Try.underlying44 hi hz0 .i64 .i64 (L.length : Int) (L.length : Int) (by omega) (by omega) (by rw [hz2]; omega) (by omega)
    rw [hz1] at hmk
    simp only [Int.toNat_natCast, Nat.mul_one] at hmk
    clear hi hz0 hz1 hz2
    have HC := hid h; clear h
    have hmr : Hid (RowF (Value.int .i64) (w.alloc (.cells (madeCells #[(Value.int .i64) (0 : Int)] L.length) 3)) w.heap.size 3 (fillTo (0 : Int) L 0)) := by
      have := made_row (Value.int .i64) (0 : Int) w L.length 3
      rw [← fillTo_zero] at this
      exact this
    go_enter Try.func25, Try.ntmps25
    go_wp2
    clear hmk hq
    go_loopw [4] (fun i wr => ∃ k : Nat, k ≤ L.length ∧ i = .int .i64 k ∧ Hid (RowF (Value.int .i64) wr w.heap.size 3 (fillTo (0 : Int) L k)) ∧ Below w.heap.size w wr) (fun i _ => L.length - (intOf i).toNat)
    case atStart => exact ⟨0, by omega, rfl, hmr, (Below.refl _ _).alloc (Nat.le_refl _) _⟩
    case round =>
      obtain ⟨k, hk, rfl, HR, hb⟩ := hrel
      clear hmr
      by_cases h1 : k < L.length
      · obtain ⟨g, off, hx, hx0⟩ := HC.out k h1
        have hx' := Option.some.inj hx
        subst hx'
        have hx1 : wr.cell? ⟨g, off + k, none⟩ = some ((Value.int .i64) (L.getD k (0 : Int))) := (hb.cell (cell_lt hx0)).trans hx0
        clear hx0 hx
        have hcell := HR.out.cell (0 : Int) k (by rw [fillTo_len _ _ _ hk]; exact h1)
        have hfz := HR.out.frozen k
        obtain ⟨y, hy⟩ : ∃ y, y = L.getD k (0 : Int) := ⟨_, rfl⟩
        rw [← hy] at hx1
        have HY := hid hy; clear hy
        generalize (fillTo (0 : Int) L k).getD k (0 : Int) = z at hcell
        go_wp2
        go_roundw
        case rel => exact ⟨k + 1, by omega, by go_num, row_set (f := (Value.int .i64)) HR hb h1 _ HY.out⟩
        case measure => simp [intOf]; omega
      · obtain rfl : k = L.length := by omega
        have HO : Hid (Cs (Value.int .i64) (0 : Int) wr (some ⟨w.heap.size, 0, none⟩) L) := by
          have := HR.out
          rw [fillTo_all] at this
          exact this.cs _
        go_wp2
        go_ret
        exact ⟨_, _, rfl, rfl, Nat.le_refl _, hL, HO, hb⟩

set_option maxHeartbeats 400000 in
theorem clone24 (ao : Option Addr) (L : List ByteArray) (cap : Nat) (w : World) (h : Cs Value.string ByteArray.empty w ao L) (hL : L.length ≤ 1048576) :
    Calls Try.prog 24 #[.slice ao L.length cap] w fun e w' => ∃ bo c, e = .returned (.slice bo L.length c) ∧ bo.isNone = ao.isNone ∧ L.length ≤ c ∧ c ≤ 1048576 ∧ Hid (Cs Value.string ByteArray.empty w' bo L) ∧ Hid (Nx w w') := by
  have hq := Lib.run_eql_slice_nil (P := Try.prog) (t := 43) (e := 9) (h := Try.underlying43)
  cases ao with
  | none =>
    have h0 := h.none_nil
    have hnil : L = [] := List.eq_nil_of_length_eq_zero h0
    subst hnil
    go_enter Try.func24, Try.ntmps24
    go_wp2
    go_ret
    exact ⟨none, 0, rfl, rfl, Nat.le_refl _, by omega, fun j hj => by simp at hj, Nx.refl _⟩
  | some x =>
    obtain ⟨i0, hi, hz0, hz1, hz2⟩ := info_parts info9
    have hmk := run_make (P := Try.prog) w 43 9 i0 (Value.string ByteArray.empty) Try.underlying43 hi hz0 .i64 .i64 (L.length : Int) (L.length : Int) (by omega) (by omega) (by rw [hz2]; omega) (by omega)
    rw [hz1] at hmk
    simp only [Int.toNat_natCast, Nat.mul_one] at hmk
    clear hi hz0 hz1 hz2
    have HC := hid h; clear h
    have hmr : Hid (RowF Value.string (w.alloc (.cells (madeCells #[Value.string ByteArray.empty] L.length) 9)) w.heap.size 9 (fillTo ByteArray.empty L 0)) := by
      have := made_row Value.string ByteArray.empty w L.length 9
      rw [← fillTo_zero] at this
      exact this
    go_enter Try.func24, Try.ntmps24
    go_wp2
    clear hmk hq
    go_loopw [4] (fun i wr => ∃ k : Nat, k ≤ L.length ∧ i = .int .i64 k ∧ Hid (RowF Value.string wr w.heap.size 9 (fillTo ByteArray.empty L k)) ∧ Below w.heap.size w wr) (fun i _ => L.length - (intOf i).toNat)
    case atStart => exact ⟨0, by omega, rfl, hmr, (Below.refl _ _).alloc (Nat.le_refl _) _⟩
    case round =>
      obtain ⟨k, hk, rfl, HR, hb⟩ := hrel
      clear hmr
      by_cases h1 : k < L.length
      · obtain ⟨g, off, hx, hx0⟩ := HC.out k h1
        have hx' := Option.some.inj hx
        subst hx'
        have hx1 : wr.cell? ⟨g, off + k, none⟩ = some (Value.string (L.getD k ByteArray.empty)) := (hb.cell (cell_lt hx0)).trans hx0
        clear hx0 hx
        have hcell := HR.out.cell ByteArray.empty k (by rw [fillTo_len _ _ _ hk]; exact h1)
        have hfz := HR.out.frozen k
        obtain ⟨y, hy⟩ : ∃ y, y = L.getD k ByteArray.empty := ⟨_, rfl⟩
        rw [← hy] at hx1
        have HY := hid hy; clear hy
        generalize (fillTo ByteArray.empty L k).getD k ByteArray.empty = z at hcell
        go_wp2
        go_roundw
        case rel => exact ⟨k + 1, by omega, by go_num, row_set (f := Value.string) HR hb h1 _ HY.out⟩
        case measure => simp [intOf]; omega
      · obtain rfl : k = L.length := by omega
        have HO : Hid (Cs Value.string ByteArray.empty wr (some ⟨w.heap.size, 0, none⟩) L) := by
          have := HR.out
          rw [fillTo_all] at this
          exact this.cs _
        go_wp2
        go_ret
        exact ⟨_, _, rfl, rfl, Nat.le_refl _, hL, HO, hb⟩

end Go.Proofs.Qxb6003633a
