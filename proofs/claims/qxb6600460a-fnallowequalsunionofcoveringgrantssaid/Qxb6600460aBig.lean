import Derived.Test.Qxb6600460aBase
namespace Go.Proofs.Qxb6600460a
open Go.RowKit
set_option linter.unusedVariables false

def SomeBool (e : Ending) : Prop := ∃ b : Bool, e = .returned (.bool b)

set_option maxRecDepth 100000 in
set_option maxHeartbeats 4000000 in
theorem bytes12 (ao : Option Addr) (G : List Gr) (cap : Nat) (t s : ByteArray) (bo : Option Addr) (A : List ByteArray) (d : Nat) (w : World) (h : Gs w ao G) (h' : Ss w bo A) (hG : G.length ≤ 9223372036854775807) (hA : A.length ≤ 9223372036854775807) :
    Calls Try.prog 12 #[.slice ao G.length cap, .string t, .string s, .slice bo A.length d] w fun e w' => SomeBool e ∧ w' = w := by
  have HC := hid h
  have HS := hid h'
  clear h h'
  by_cases h0 : G.length ≤ 1048576
  · have c0 : decide ((G.length : Int) > 1048576) = false := decide_eq_false (by omega)
    go_enter Try.func12, Try.ntmps12
    go_wp2
    go_loopw [9, 10] (fun v i wr => ∃ k m : Nat, k ≤ G.length ∧ i = .int .i64 k ∧ v = .int .i64 m ∧ m ≤ 1048576 ∧ wr = w) (fun _ i _ => G.length - (intOf i).toNat)
    case atStart => exact ⟨0, G.length, by omega, rfl, by go_num, h0, rfl⟩
    case round =>
      obtain ⟨k, m, hk, rfl, rfl, hm, rfl⟩ := hrel
      by_cases h1 : k < G.length
      · obtain ⟨g, off, rfl, hc0, hc1, hc2, hc3⟩ := HC.out k h1
        have HX := hid hc3
        clear hc3
        generalize G.getD k default = x at hc0 hc1 hc2 HX
        obtain ⟨xt, xs, xo, c, L⟩ := x
        simp only at hc0 hc1 hc2 HX
        go_wp2
        all_goals try (go_ret; exact ⟨⟨false, rfl⟩, rfl⟩)
        go_loopw [9, 11] (fun v i wq => ∃ j q : Nat, j ≤ L.length ∧ i = .int .i64 j ∧ v = .int .i64 q ∧ q ≤ 1048576 ∧ wq = wr) (fun _ i _ => L.length - (intOf i).toNat)
        case atStart => exact ⟨0, m + xt.size + xs.size + L.length, by omega, rfl, by go_num, by omega, rfl⟩
        case round =>
          obtain ⟨j, q, hj, rfl, rfl, hq, rfl⟩ := hrel
          by_cases h2 : j < L.length
          · obtain ⟨g', off', rfl, hd⟩ := HX.out j h2
            generalize L.getD j ByteArray.empty = y at hd
            go_wp2
            all_goals try (go_ret; exact ⟨⟨false, rfl⟩, rfl⟩)
            go_roundw
            case rel => exact ⟨j + 1, q + y.size, by omega, by go_num, by go_num, by omega, by first | rfl | trivial⟩
            case measure => simp [intOf]; omega
          · obtain rfl : j = L.length := by omega
            go_wp2_with fail
            go_roundw
            case rel => exact ⟨k + 1, q, by omega, by go_num, rfl, hq, by first | rfl | trivial⟩
            case measure => simp [intOf]; omega
      · obtain rfl : k = G.length := by omega
        go_wp2
        all_goals try (go_ret; exact ⟨⟨false, rfl⟩, rfl⟩)
        go_loopw [9, 12] (fun v i wq => ∃ j q : Nat, j ≤ A.length ∧ i = .int .i64 j ∧ v = .int .i64 q ∧ q ≤ 1048576 ∧ wq = wr) (fun _ i _ => A.length - (intOf i).toNat)
        case atStart => exact ⟨0, m + t.size + s.size + A.length, by omega, rfl, by go_num, by omega, rfl⟩
        case round =>
          obtain ⟨j, q, hj, rfl, rfl, hq, rfl⟩ := hrel
          by_cases h2 : j < A.length
          · obtain ⟨g', off', rfl, hd⟩ := HS.out j h2
            generalize A.getD j ByteArray.empty = y at hd
            go_wp2
            all_goals try (go_ret; exact ⟨⟨false, rfl⟩, rfl⟩)
            go_roundw
            case rel => exact ⟨j + 1, q + y.size, by omega, by go_num, by go_num, by omega, by first | rfl | trivial⟩
            case measure => simp [intOf]; omega
          · obtain rfl : j = A.length := by omega
            go_wp2_with fail
            go_ret
            exact ⟨⟨true, rfl⟩, rfl⟩
  · have c0 : decide ((G.length : Int) > 1048576) = true := decide_eq_true (by omega)
    go_enter Try.func12, Try.ntmps12
    go_wp2_with fail
    go_ret
    exact ⟨⟨false, rfl⟩, rfl⟩

end Go.Proofs.Qxb6600460a
