import Derived.Test.Qxb6003633aPartsP
import Derived.Test.Qxb6003633aFits
namespace Go.Proofs.Qxb6003633a
open Go.RowKit Go.Maps
set_option linter.unusedVariables false

/-! ### slices cut -/
theorem sz40 (w : World) : (sizeOf (Try.prog.elem 40)).run Try.prog w = .ok 1 w := by kernel_rfl
theorem sz41 (w : World) : (sizeOf (Try.prog.elem 41)).run Try.prog w = .ok 1 w := by kernel_rfl
theorem sz42 (w : World) : (sizeOf (Try.prog.elem 42)).run Try.prog w = .ok 1 w := by kernel_rfl
theorem sz43 (w : World) : (sizeOf (Try.prog.elem 43)).run Try.prog w = .ok 1 w := by kernel_rfl
theorem sz44 (w : World) : (sizeOf (Try.prog.elem 44)).run Try.prog w = .ok 1 w := by kernel_rfl

def offA (a : Option Addr) (l cap : Nat) : Option Addr := if cap = l then a else a.map (·.add l)
theorem offA_none (a : Option Addr) (l cap : Nat) : (offA a l cap).isNone = a.isNone := by unfold offA; split <;> cases a <;> rfl
theorem sl_h {t : TypeId} (ht : Try.prog.underlying t = some (.slice (Try.prog.elem t))) (hs : ∀ w, (sizeOf (Try.prog.elem t)).run Try.prog w = .ok 1 w) (a : Option Addr) (len cap h : Nat) (hh : h ≤ cap) (w : World) :
    (Instr.slice t (.slice a len cap) none (some (.int .i64 (h : Int))) none).run Try.prog w = .ok (.slice a h cap) w := by
  rw [run_slice_h (ht := ht) (h0 := by omega) (h2 := by omega), hs]
  show Result.ok (sliced a 0 h cap 1) w = _
  unfold sliced
  have e : (if cap = 0 then a else a.map (·.add (0 * 1))) = a := by
    split
    · rfl
    · cases a <;> simp [Addr.add]
  rw [e]
  rfl
theorem sl_l {t : TypeId} (ht : Try.prog.underlying t = some (.slice (Try.prog.elem t))) (hs : ∀ w, (sizeOf (Try.prog.elem t)).run Try.prog w = .ok 1 w) (a : Option Addr) (len cap l : Nat) (hh : l ≤ len) (w : World) :
    (Instr.slice t (.slice a len cap) (some (.int .i64 (l : Int))) none none).run Try.prog w = .ok (.slice (offA a l cap) (len - l) (cap - l)) w := by
  rw [run_slice_l (ht := ht) (h0 := by omega) (h1 := by omega), hs]
  show Result.ok (sliced a l len cap 1) w = _
  unfold sliced offA
  rw [Nat.mul_one]

theorem Cs.take {α : Type} {f : α → Value} {d : α} {w : World} {ao : Option Addr} {L : List α} (h : Cs f d w ao L) (n : Nat) : Cs f d w ao (L.take n) := by
  intro j hj
  have hj2 : j < n ∧ j < L.length := by rw [List.length_take] at hj; omega
  obtain ⟨g, off, e, hc⟩ := h j hj2.2
  exact ⟨g, off, e, by rw [take_getD _ _ hj2.1]; exact hc⟩
theorem Cs.drop {α : Type} {f : α → Value} {d : α} {w : World} {ao : Option Addr} {L : List α} {cap : Nat} (h : Cs f d w ao L) (hcap : L.length ≤ cap) (n : Nat) : Cs f d w (offA ao n cap) (L.drop n) := by
  intro j hj
  rw [List.length_drop] at hj
  obtain ⟨g, off, e, hc⟩ := h (n + j) (by omega)
  refine ⟨g, off + n, ?_, by rw [drop_getD, Nat.add_assoc]; exact hc⟩
  unfold offA
  rw [if_neg (by omega), e]
  show some (Addr.add ⟨g, off, none⟩ n) = _
  unfold Addr.add
  split
  · subst_vars; rfl
  · rfl

set_option maxHeartbeats 1000000 in
theorem bytes39 (a0 a1 a2 a3 a4 a5 : Option Addr) (n0 n1 n2 n3 n5 c0 c1 c2 c3 c4 c5 : Nat) (cut : Int) (L : List ByteArray) (w : World) (h4 : Cs Value.string ByteArray.empty w a4 L)
    (b0 : n0 ≤ 9223372036854775807) (b1 : n1 ≤ 9223372036854775807) (b2 : n2 ≤ 9223372036854775807) (b3 : n3 ≤ 9223372036854775807) (b4 : L.length ≤ 9223372036854775807) (b5 : n5 ≤ 9223372036854775807) :
    Calls Try.prog 39 #[.slice a0 n0 c0, .slice a1 n1 c1, .slice a2 n2 c2, .slice a3 n3 c3, .slice a4 L.length c4, .slice a5 n5 c5, .int .i64 cut] w fun e w' => SomeBool e ∧ w' = w := by
  have HC := hid h4; clear h4
  by_cases hb : n0 + n1 + n2 + n3 + L.length ≤ 1048576
  rotate_left
  · go_enter Try.func39, Try.ntmps39
    go_wp2
    all_goals (go_ret; exact ⟨⟨_, rfl⟩, rfl⟩)
  go_enter Try.func39, Try.ntmps39
  go_wp2
  go_loop [15, 16] (fun z i => ∃ k s : Nat, k ≤ L.length ∧ i = .int .i64 k ∧ z = .int .i64 s ∧ s ≤ 1048576) (fun _ i => L.length - (intOf i).toNat)
  case atStart => exact ⟨0, n0 + n1 + n2 + n3 + L.length, by omega, rfl, by go_num, hb⟩
  case round =>
    obtain ⟨k, s, hk, rfl, rfl, hs⟩ := hrel
    by_cases h1 : k < L.length
    · obtain ⟨g, off, hx, hx0⟩ := HC.out k h1
      subst hx
      generalize L.getD k ByteArray.empty = b at hx0
      by_cases h2 : 1048576 < b.size
      · go_wp2
        go_ret
        exact ⟨⟨_, rfl⟩, rfl⟩
      by_cases h3 : 1048576 < s + b.size
      · go_wp2
        go_ret
        exact ⟨⟨_, rfl⟩, rfl⟩
      go_wp2
      go_round
      case rel => exact ⟨k + 1, s + b.size, by omega, by go_num, by go_num, by omega⟩
      case measure => simp [intOf]; omega
    · go_wp2
      all_goals (go_ret; exact ⟨⟨_, rfl⟩, rfl⟩)

end Go.Proofs.Qxb6003633a
