import Derived.Test.Qxb6003637aRows
import Derived.WalkKit
import Derived.ProofKit
import Derived.OpenShut
import Derived.ShutString
import Derived.BigQuiet
namespace Go.Proofs.Qxb6003637a
open Go.RowKit
set_option linter.unusedVariables false

theorem hid {p : Prop} (h : p) : Hid p := h

def tbl : Nat → ByteArray
  | 1 => ⟨#[111, 107]⟩
  | 2 => ⟨#[119, 97, 105, 116, 115]⟩
  | 3 => ⟨#[114, 101, 115, 117, 109, 101, 100]⟩
  | 4 => ⟨#[100, 101, 97, 100, 108, 111, 99, 107]⟩
  | 5 => ⟨#[101, 114, 114, 111, 114, 32, 100, 117, 112, 108, 105, 99, 97, 116, 101, 45, 107, 101, 121]⟩
  | _ => ⟨#[117, 110, 107, 110, 111, 119, 110]⟩
def cl (a : Int) : Nat := if a = 1 then 1 else if a = 2 then 2 else if a = 3 then 3 else if a = 4 then 4 else if a = 5 then 5 else 0
theorem cl_lt (a : Int) : cl a < 6 := by unfold cl; (repeat' split) <;> omega
theorem cl_inj {a b : Int} (h : cl a = cl b) (h0 : cl a ≠ 0) : a = b := by
  unfold cl at h h0
  repeat' split at h
  all_goals first | omega | (simp_all; done)
theorem tbl_inj : ∀ m, m < 6 → ∀ n, n < 6 → m ≠ n → (tbl m).toList ≠ (tbl n).toList := by
  intro m hm n hn h
  rw [ByteArray.toList_eq, ByteArray.toList_eq]
  match m, hm, n, hn with
  | 0, _, 0, _ | 1, _, 1, _ | 2, _, 2, _ | 3, _, 3, _ | 4, _, 4, _ | 5, _, 5, _ => exact absurd rfl h
  | 0, _, 1, _ | 0, _, 2, _ | 0, _, 3, _ | 0, _, 4, _ | 0, _, 5, _ => simp [tbl]
  | 1, _, 0, _ | 1, _, 2, _ | 1, _, 3, _ | 1, _, 4, _ | 1, _, 5, _ => simp [tbl]
  | 2, _, 0, _ | 2, _, 1, _ | 2, _, 3, _ | 2, _, 4, _ | 2, _, 5, _ => simp [tbl]
  | 3, _, 0, _ | 3, _, 1, _ | 3, _, 2, _ | 3, _, 4, _ | 3, _, 5, _ => simp [tbl]
  | 4, _, 0, _ | 4, _, 1, _ | 4, _, 2, _ | 4, _, 3, _ | 4, _, 5, _ => simp [tbl]
  | 5, _, 0, _ | 5, _, 1, _ | 5, _, 2, _ | 5, _, 3, _ | 5, _, 4, _ => simp [tbl]

set_option maxHeartbeats 1000000 in
theorem str5 (a : Int) (w : World) : Calls Try.prog 5 #[.int .i64 a] w fun e w' => e = .returned (.string (tbl (cl a))) ∧ w' = w := by
  by_cases h1 : a = 1
  · subst h1
    go_enter Try.func5, Try.ntmps5
    go_wp2
    go_ret
    exact ⟨rfl, rfl⟩
  by_cases h2 : a = 2
  · subst h2
    go_enter Try.func5, Try.ntmps5
    go_wp2
    go_ret
    exact ⟨rfl, rfl⟩
  by_cases h3 : a = 3
  · subst h3
    go_enter Try.func5, Try.ntmps5
    go_wp2
    go_ret
    exact ⟨rfl, rfl⟩
  by_cases h4 : a = 4
  · subst h4
    go_enter Try.func5, Try.ntmps5
    go_wp2
    go_ret
    exact ⟨rfl, rfl⟩
  by_cases h5 : a = 5
  · subst h5
    go_enter Try.func5, Try.ntmps5
    go_wp2
    go_ret
    exact ⟨rfl, rfl⟩
  have e : cl a = 0 := by unfold cl; simp [h1, h2, h3, h4, h5]
  rw [e]
  clear e
  go_enter Try.func5, Try.ntmps5
  go_wp2
  go_ret
  exact ⟨rfl, rfl⟩

theorem known6 (a : Int) (w : World) : Calls Try.prog 6 #[.int .i64 a] w fun e w' => e = .returned (.bool (cl a != 0)) ∧ w' = w := by
  by_cases h1 : 1 ≤ a
  · by_cases h5 : a ≤ 5
    · have e : (cl a != 0) = true := by
        have : cl a ≠ 0 := by unfold cl; (repeat' split) <;> omega
        simpa using this
      rw [e]; clear e
      go_enter Try.func6, Try.ntmps6
      go_wp2
      go_ret
      exact ⟨rfl, rfl⟩
    · have e : (cl a != 0) = false := by
        have : cl a = 0 := by unfold cl; (repeat' split) <;> omega
        simpa using this
      rw [e]; clear e
      go_enter Try.func6, Try.ntmps6
      go_wp2
      go_ret
      exact ⟨rfl, rfl⟩
  · have e : (cl a != 0) = false := by
      have : cl a = 0 := by unfold cl; (repeat' split) <;> omega
      simpa using this
    rw [e]; clear e
    go_enter Try.func6, Try.ntmps6
    go_wp2
    go_ret
    exact ⟨rfl, rfl⟩

set_option maxHeartbeats 1000000 in
theorem fits7 (n : Nat) (hn : n < 6) (w : World) : Calls Try.prog 7 #[.string (tbl n), .bool (n != 0)] w fun e w' => e = .returned (.bool true) ∧ w' = w := by
  by_cases h0 : n = 0
  · subst h0
    have h1 : ((tbl 0).toList == [117, 110, 107, 110, 111, 119, 110]) = true := by rw [ByteArray.toList_eq]; rfl
    have e : (0 != 0) = false := rfl
    rw [e]; clear e
    generalize tbl 0 = x at *
    go_enter Try.func7, Try.ntmps7
    go_wp2
    go_ret
    exact ⟨rfl, rfl⟩
  · have h1 : ((tbl n).toList == [117, 110, 107, 110, 111, 119, 110]) = false := by
      have := tbl_inj n hn 0 (by omega) h0
      rw [ByteArray.toList_eq (tbl 0)] at this
      exact beq_eq_false_iff_ne.2 this
    have h2 : ((tbl n).toList == []) = false := by
      apply beq_eq_false_iff_ne.2
      rw [ByteArray.toList_eq]
      match n, hn, h0 with
      | 1, _, _ | 2, _, _ | 3, _, _ | 4, _, _ | 5, _, _ => simp [tbl]
    have e : (n != 0) = true := by simpa using h0
    rw [e]; clear e
    generalize tbl n = x at *
    clear h0
    go_enter Try.func7, Try.ntmps7
    go_wp2
    go_ret
    exact ⟨rfl, rfl⟩

end Go.Proofs.Qxb6003637a
