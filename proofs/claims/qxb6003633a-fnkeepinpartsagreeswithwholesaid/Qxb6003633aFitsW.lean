import Derived.Test.Qxb6003633aFitsBig
namespace Go.Proofs.Qxb6003633a
open Go.RowKit
set_option linter.unusedVariables false

set_option maxHeartbeats 2000000 in
theorem fits20 (a0 a1 a2 a3 a4 a5 : Option Addr) (n0 n1 n2 n3 c0 c1 c2 c3 c4 c5 : Nat) (L : List ByteArray) (E : List Int) (w : World) (h4 : Cs Value.string ByteArray.empty w a4 L) (h5 : Cs (Value.int .i64) 0 w a5 E)
    (hE : ∀ k, -9223372036854775808 ≤ E.getD k 0 ∧ E.getD k 0 ≤ 9223372036854775807)
    (b0 : n0 ≤ 9223372036854775807) (b1 : n1 ≤ 9223372036854775807) (b2 : n2 ≤ 9223372036854775807) (b3 : n3 ≤ 9223372036854775807) (b4 : L.length ≤ 9223372036854775807) (b5 : E.length ≤ 9223372036854775807) :
    Calls Try.prog 20 #[.slice a0 n0 c0, .slice a1 n1 c1, .slice a2 n2 c2, .slice a3 n3 c3, .slice a4 L.length c4, .slice a5 E.length c5] w fun e w' => FitsOut e (Fits n0 n1 n2 n3 a3.isNone L E) ∧ w' = w := by
  by_cases hA : n0 ≤ 262144 ∧ n1 ≤ 262144 ∧ n2 ≤ 131072 ∧ n3 ≤ 131072 ∧ E.length ≤ 131072 ∧ L.length ≤ 4096
  rotate_left
  · exact (fits20_big a0 a1 a2 a3 a4 a5 n0 n1 n2 n3 c0 c1 c2 c3 c4 c5 L E w h4 h5 hE b0 b1 b2 b3 b4 b5 hA).mono fun e w' h => ⟨.inl h.1, h.2⟩
  have HC := hid h4; clear h4
  have HCE := hid h5; clear h5
  have HE := hid hE; clear hE
  have hq := run_neq_slice_nil_any (P := Try.prog) (t := 42) (e := 2) (h := Try.underlying42)
  obtain ⟨g0, g1, g2, g3, g4, g5⟩ := hA
  clear b0 b1 b2 b3 b4 b5
  have d0 : decide ((262144 : Int) < (n0 : Int)) = false := by simp; omega
  have d1 : decide ((262144 : Int) < (n1 : Int)) = false := by simp; omega
  have d2 : decide ((131072 : Int) < (n2 : Int)) = false := by simp; omega
  have d3 : decide ((131072 : Int) < (n3 : Int)) = false := by simp; omega
  have d4 : decide ((131072 : Int) < (E.length : Int)) = false := by simp; omega
  have d5 : decide ((4096 : Int) < (L.length : Int)) = false := by simp; omega
  by_cases hS : 4 * n0 + 4 * n1 + 8 * n2 + 8 * n3 + 8 * E.length + 16 * L.length ≤ 1048576
  rotate_left
  · go_enter Try.func20, Try.ntmps20
    go_wp2
    go_ret
    exact ⟨.inl rfl, rfl⟩
  go_enter Try.func20, Try.ntmps20
  go_wp2
  go_loop [13, 14] (fun z i => ∃ k s : Nat, k ≤ L.length ∧ i = .int .i64 k ∧ z = .int .i64 s ∧ s ≤ 1048576 ∧ Hid (∀ j, j < k → (L.getD j ByteArray.empty).size ≤ 1048576)) (fun _ i => L.length - (intOf i).toNat)
  case atStart => exact ⟨0, 4 * n0 + 4 * n1 + 8 * n2 + 8 * n3 + 8 * E.length + 16 * L.length, by omega, rfl, by go_num, hS, fun j hj => by omega⟩
  case round =>
    obtain ⟨k, s, hk, rfl, rfl, hs, HM⟩ := hrel
    by_cases h1 : k < L.length
    · obtain ⟨g, off, hx, hx0⟩ := HC.out k h1
      subst hx
      generalize hbb : L.getD k ByteArray.empty = b at hx0
      have HBB := hid hbb; clear hbb
      by_cases h2 : 1048576 - (s : Int) < (b.size : Int)
      · go_wp2
        go_ret
        exact ⟨.inl rfl, rfl⟩
      go_wp2
      go_round
      case rel =>
        refine ⟨k + 1, s + b.size, by omega, by go_num, by go_num, by omega, fun j hj => ?_⟩
        by_cases e : j = k
        · subst e; rw [HBB.out]; omega
        · exact HM.out j (by omega)
      case measure => simp [intOf]; omega
    · obtain rfl : k = L.length := by omega
      by_cases e1 : n1 = n0
      rotate_left
      · have t1 : ((n1 : Int) != (n0 : Int)) = true := by simp; omega
        go_wp2
        go_ret
        exact ⟨.inl rfl, rfl⟩
      subst e1
      by_cases e2 : n2 = n1
      rotate_left
      · have t1 : ((n2 : Int) != (n1 : Int)) = true := by simp; omega
        go_wp2
        go_ret
        exact ⟨.inl rfl, rfl⟩
      subst e2
      by_cases e3 : a3.isNone = false → n3 = n2
      rotate_left
      · have hsn : a3.isNone = false := by
          cases hh : a3.isNone
          · rfl
          · exact absurd (fun h => by rw [hh] at h; cases h) e3
        have t1 : ((n3 : Int) != (n2 : Int)) = true := by
          simp; intro h; exact e3 (fun _ => by omega)
        have E3 := hid e3; clear e3
        go_wp2
        go_ret
        exact ⟨.inl rfl, rfl⟩
      have t3 : a3.isNone = true ∨ (a3.isNone = false ∧ ((n3 : Int) != (n2 : Int)) = false) := by
        cases hh : a3.isNone
        · exact .inr ⟨rfl, by rw [e3 hh]; simp⟩
        · exact .inl rfl
      have E3 := hid e3; clear e3
      by_cases e4 : E.length = L.length
      rotate_left
      · have t1 : ((E.length : Int) != (L.length : Int)) = true := by simp; omega
        rcases t3 with t3 | ⟨t3, t4⟩
        all_goals
          go_wp2
          go_ret
          exact ⟨.inl rfl, rfl⟩
      have t1 : ((E.length : Int) != (L.length : Int)) = false := by simp; omega
      have hEL : E.length ≤ L.length := by omega
      have E4 := hid e4; clear e4
      rcases t3 with t3 | ⟨t3, t4⟩
      all_goals
        go_wp2
        go_loop [16, 17] (fun z i => ∃ k : Nat, k ≤ E.length ∧ i = .int .i64 k ∧ z = .int .i64 (prevE E k) ∧ Hid (EndsOk E n2 k)) (fun _ i => E.length - (intOf i).toNat)
        case atStart => exact ⟨0, by omega, rfl, rfl, fun j hj => by omega⟩
        case round =>
          obtain ⟨k, hk, rfl, rfl, HK⟩ := hrel
          by_cases h2 : k < E.length
          · obtain ⟨g, off, hx, hx0⟩ := HCE.out k h2
            subst hx
            have hb := HE.out k
            have hps := prevE_succ E k
            have hst := @EndsOk.step E n2 k HK.out
            have HST := hid hst
            have HPS := hid hps
            clear hst hps
            generalize E.getD k 0 = y at *
            generalize prevE E k = q at *
            by_cases h3 : y < q
            · go_wp2
              go_ret
              exact ⟨.inl rfl, rfl⟩
            have d6 : decide (y < q) = false := by simpa using h3
            by_cases h4 : (n2 : Int) < y
            · go_wp2
              go_ret
              exact ⟨.inl rfl, rfl⟩
            have d7 : decide ((n2 : Int) < y) = false := by simpa using h4
            go_wp2
            go_round
            case rel => exact ⟨k + 1, by omega, by go_num, by rw [HPS.out], HST.out (by omega) (by omega)⟩
            case measure => simp [intOf]; omega
          · obtain rfl : k = E.length := by omega
            have HF : Hid (Fits n2 n2 n2 n3 a3.isNone L E) := ⟨g0, rfl, rfl, E3.out, g3, E4.out, g5, HM.out, HK.out⟩
            go_wp2
            go_ret
            exact ⟨.inr ⟨rfl, by rw [← t3]; exact HF.out⟩, rfl⟩

end Go.Proofs.Qxb6003633a
