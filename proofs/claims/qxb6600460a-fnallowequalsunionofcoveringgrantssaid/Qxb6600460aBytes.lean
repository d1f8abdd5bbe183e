import Derived.Test.Qxb6600460aBase
namespace Go.Proofs.Qxb6600460a
open Go.RowKit
set_option linter.unusedVariables false

theorem add20 (n k : Nat) (w : World) (hn : n ≤ 2097153) : Calls Try.prog 20 #[.int .i64 n, .int .i64 k] w fun e w' => (∃ m : Nat, e = .returned (.int .i64 m) ∧ m ≤ 2097152 ∧ (m ≤ 1048576 → n + k ≤ m)) ∧ w' = w := by
  by_cases h1 : n ≤ 1048576
  · by_cases h2 : k ≤ 1048576
    · have c1 : decide ((n : Int) > 1048576) = false := decide_eq_false (by omega)
      have c2 : decide ((k : Int) < 0) = false := decide_eq_false (by omega)
      have c3 : decide ((k : Int) > 1048576) = false := decide_eq_false (by omega)
      go_enter Try.func20, Try.ntmps20
      go_wp2_with fail
      go_ret
      exact ⟨⟨n + k, by go_num, by omega, fun _ => Nat.le_refl _⟩, rfl⟩
    · have c1 : decide ((n : Int) > 1048576) = false := decide_eq_false (by omega)
      have c2 : decide ((k : Int) < 0) = false := decide_eq_false (by omega)
      have c3 : decide ((k : Int) > 1048576) = true := decide_eq_true (by omega)
      go_enter Try.func20, Try.ntmps20
      go_wp2_with fail
      go_ret
      exact ⟨⟨1048577, rfl, by omega, fun _ => by omega⟩, rfl⟩
  · have c1 : decide ((n : Int) > 1048576) = true := decide_eq_true (by omega)
    go_enter Try.func20, Try.ntmps20
    go_wp2_with fail
    go_ret
    exact ⟨⟨1048577, rfl, by omega, fun _ => by omega⟩, rfl⟩

set_option maxHeartbeats 400000 in
theorem strs21 (n : Nat) (ao : Option Addr) (L : List ByteArray) (cap : Nat) (w : World) (h : Ss w ao L) (hn : n ≤ 2097153) :
    Calls Try.prog 21 #[.int .i64 n, .slice ao L.length cap] w fun e w' => (∃ m : Nat, e = .returned (.int .i64 m) ∧ m ≤ 2097153 ∧ (m ≤ 1048576 → n + L.length ≤ m)) ∧ w' = w := by
  by_cases h0 : L.length ≤ 65536
  · have c1 : decide ((L.length : Int) > 65536) = false := decide_eq_false (by omega)
    have HC := hid h
    clear h
    go_enter Try.func21, Try.ntmps21
    go_wp2
    go_loopw [0, 5] (fun v i wr => ∃ k m : Nat, k ≤ L.length ∧ i = .int .i64 k ∧ v = .int .i64 m ∧ m ≤ 2097153 ∧ Hid (m ≤ 1048576 → n + k ≤ m) ∧ wr = w) (fun _ i _ => L.length - (intOf i).toNat)
    case atStart => exact ⟨0, n, by omega, rfl, rfl, hn, hid (fun _ => Nat.le_refl _), rfl⟩
    case round =>
      obtain ⟨k, m, hk, rfl, rfl, hm, HM, rfl⟩ := hrel
      by_cases h1 : k < L.length
      · obtain ⟨g, off, rfl, hc⟩ := HC.out k h1
        generalize L.getD k ByteArray.empty = s at hc
        go_wp2_with fail
        refine (add20 m 16 _ hm).mono ?_
        rintro e w' ⟨⟨m1, rfl, hm1, hm2⟩, hw⟩
        have hw := hw.symm
        subst hw
        have HM1 := hid hm2
        clear hm2
        go_wp2_with fail
        refine (add20 m1 s.size _ (by omega)).mono ?_
        rintro e w' ⟨⟨m2, rfl, hm3, hm4⟩, hw⟩
        have hw := hw.symm
        subst hw
        have HM2 := hid hm4
        clear hm4
        by_cases h2 : m2 ≤ 1048576
        · have c2 : decide ((m2 : Int) > 1048576) = false := decide_eq_false (by omega)
          go_wp2_with fail
          go_roundw
          case rel => exact ⟨k + 1, m2, by omega, by go_num, rfl, by omega, hid (fun _ => by have a := HM2.out h2; have b := HM1.out (by omega); have c := HM.out (by omega); omega), by first | rfl | trivial⟩
          case measure => simp [intOf]; omega
        · have c2 : decide ((m2 : Int) > 1048576) = true := decide_eq_true (by omega)
          go_wp2_with fail
          go_ret
          exact ⟨⟨m2, rfl, by omega, fun h => absurd h h2⟩, rfl⟩
      · obtain rfl : k = L.length := by omega
        go_wp2_with fail
        go_ret
        exact ⟨⟨m, rfl, hm, HM.out⟩, rfl⟩
  · have c1 : decide ((L.length : Int) > 65536) = true := decide_eq_true (by omega)
    go_enter Try.func21, Try.ntmps21
    go_wp2_with fail
    go_ret
    exact ⟨⟨1048577, rfl, by omega, fun _ => by omega⟩, rfl⟩

theorem want9 (n : Nat) (t s : ByteArray) (ao : Option Addr) (L : List ByteArray) (cap : Nat) (w : World) (h : Ss w ao L) (hn : n ≤ 2097153) :
    Calls Try.prog 9 #[.int .i64 n, .string t, .string s, .slice ao L.length cap] w fun e w' => (∃ m : Nat, e = .returned (.int .i64 m) ∧ m ≤ 2097153 ∧ (m ≤ 1048576 → n + t.size + s.size + L.length ≤ m)) ∧ w' = w := by
  have HC := hid h
  clear h
  go_enter Try.func9, Try.ntmps9
  go_wp2_with fail
  refine (add20 n t.size _ hn).mono ?_
  rintro e w' ⟨⟨m1, rfl, hm1, hm2⟩, hw⟩
  have hw := hw.symm
  subst hw
  have HM1 := hid hm2
  clear hm2
  go_wp2_with fail
  refine (add20 m1 s.size _ (by omega)).mono ?_
  rintro e w' ⟨⟨m2, rfl, hm3, hm4⟩, hw⟩
  have hw := hw.symm
  subst hw
  have HM2 := hid hm4
  clear hm4
  go_wp2_with fail
  refine (strs21 m2 ao L cap _ HC.out (by omega)).mono ?_
  rintro e w' ⟨⟨m3, rfl, hm5, hm6⟩, hw⟩
  have hw := hw.symm
  subst hw
  have HM3 := hid hm6
  clear hm6
  go_wp2_with fail
  go_ret
  exact ⟨⟨m3, rfl, hm5, fun h => by have a := HM3.out h; have b := HM2.out (by omega); have c := HM1.out (by omega); omega⟩, rfl⟩

def wt (x : Gr) : Nat := x.ty.size + x.nm.size + x.acts.length
def tot (G : List Gr) : Nat := (G.map wt).sum
theorem tot_take (G : List Gr) (k : Nat) (h : k < G.length) : tot (G.take (k + 1)) = tot (G.take k) + wt (G.getD k default) := by
  unfold tot
  rw [List.take_succ_eq_append_getElem h, List.map_append, List.sum_append]
  simp [List.getD, h]
theorem wt_le (G : List Gr) (k : Nat) (h : k < G.length) : wt (G.getD k default) ≤ tot G := by
  have h1 := tot_take G k h
  have h2 : tot G = tot (G.take (k + 1)) + tot (G.drop (k + 1)) := by
    unfold tot
    rw [← List.sum_append, ← List.map_append, List.take_append_drop]
  omega

set_option maxHeartbeats 400000 in
theorem grants13 (n : Nat) (ao : Option Addr) (G : List Gr) (cap : Nat) (w : World) (h : Gs w ao G) (hn : n ≤ 2097153) :
    Calls Try.prog 13 #[.int .i64 n, .slice ao G.length cap] w fun e w' => (∃ m : Nat, e = .returned (.int .i64 m) ∧ m ≤ 2097153 ∧ (m ≤ 1048576 → n + tot G ≤ m)) ∧ w' = w := by
  by_cases h0 : G.length ≤ 65536
  · have c1 : decide ((G.length : Int) > 65536) = false := decide_eq_false (by omega)
    have HC := hid h
    clear h
    go_enter Try.func13, Try.ntmps13
    go_wp2
    go_loopw [0, 5] (fun v i wr => ∃ k m : Nat, k ≤ G.length ∧ i = .int .i64 k ∧ v = .int .i64 m ∧ m ≤ 2097153 ∧ Hid (m ≤ 1048576 → n + tot (G.take k) ≤ m) ∧ wr = w) (fun _ i _ => G.length - (intOf i).toNat)
    case atStart => exact ⟨0, n, by omega, rfl, rfl, hn, hid (fun _ => by simp [tot]), rfl⟩
    case round =>
      obtain ⟨k, m, hk, rfl, rfl, hm, HM, rfl⟩ := hrel
      by_cases h1 : k < G.length
      · obtain ⟨g, off, rfl, hc0, hc1, hc2, hc3⟩ := HC.out k h1
        have HS := hid hc3
        have HW := hid (tot_take G k h1)
        clear hc3
        generalize G.getD k default = x at hc0 hc1 hc2 HS HW
        obtain ⟨t, s, bo, c, L⟩ := x
        simp only at hc0 hc1 hc2 HS
        have hW : wt ⟨t, s, bo, c, L⟩ = t.size + s.size + L.length := rfl
        rw [hW] at HW
        clear hW
        go_wp2_with fail
        refine (add20 m 56 _ hm).mono ?_
        rintro e w' ⟨⟨m1, rfl, hm1, hm2⟩, hw⟩
        have hw := hw.symm
        subst hw
        have HM1 := hid hm2
        clear hm2
        go_wp2_with fail
        refine (add20 m1 t.size _ (by omega)).mono ?_
        rintro e w' ⟨⟨m2, rfl, hm3, hm4⟩, hw⟩
        have hw := hw.symm
        subst hw
        have HM2 := hid hm4
        clear hm4
        go_wp2_with fail
        refine (add20 m2 s.size _ (by omega)).mono ?_
        rintro e w' ⟨⟨m3, rfl, hm5, hm6⟩, hw⟩
        have hw := hw.symm
        subst hw
        have HM3 := hid hm6
        clear hm6
        go_wp2_with fail
        refine (strs21 m3 bo L c _ HS.out (by omega)).mono ?_
        rintro e w' ⟨⟨m4, rfl, hm7, hm8⟩, hw⟩
        have hw := hw.symm
        subst hw
        have HM4 := hid hm8
        clear hm8
        by_cases h2 : m4 ≤ 1048576
        · have c2 : decide ((m4 : Int) > 1048576) = false := decide_eq_false (by omega)
          go_wp2_with fail
          go_roundw
          case rel => exact ⟨k + 1, m4, by omega, by go_num, rfl, by omega, hid (fun _ => by have a := HM4.out h2; have b := HM3.out (by omega); have c := HM2.out (by omega); have d := HM1.out (by omega); have e := HM.out (by omega); have f := HW.out; omega), by first | rfl | trivial⟩
          case measure => simp [intOf]; omega
        · have c2 : decide ((m4 : Int) > 1048576) = true := decide_eq_true (by omega)
          go_wp2_with fail
          go_ret
          exact ⟨⟨m4, rfl, by omega, fun h => absurd h h2⟩, rfl⟩
      · obtain rfl : k = G.length := by omega
        go_wp2_with fail
        go_ret
        exact ⟨⟨m, rfl, hm, by have := HM.out; rw [List.take_length] at this; exact this⟩, rfl⟩
  · have c1 : decide ((G.length : Int) > 65536) = true := decide_eq_true (by omega)
    go_enter Try.func13, Try.ntmps13
    go_wp2_with fail
    go_ret
    exact ⟨⟨1048577, rfl, by omega, fun _ => by omega⟩, rfl⟩

end Go.Proofs.Qxb6600460a
