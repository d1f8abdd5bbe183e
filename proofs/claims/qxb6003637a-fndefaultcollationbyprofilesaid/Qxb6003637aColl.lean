import Derived.Test.Qxb6003637aNames
import Derived.WalkSpells
import Derived.Lib.IndexBytes
import Derived.Deep.QuietTactic
namespace Go.Proofs.Qxb6003637a
open Go.RowKit
set_option linter.unusedVariables false

def pfx : ByteArray := ⟨#[116, 104, 101, 32, 100, 101, 102, 97, 117, 108, 116, 32, 111, 102, 32, 99, 104, 97, 114, 97, 99, 116, 101, 114, 32, 115, 101, 116, 32]⟩
def nmC : ByteArray := ⟨#[117, 116, 102, 56, 109, 98, 52, 95, 48, 57, 48, 48, 95, 97, 105, 95, 99, 105]⟩
def k1 : ByteArray := ⟨#[116, 104, 101, 32, 115, 101, 114, 118, 101, 114, 39, 115, 32, 100, 101, 102, 97, 117, 108, 116, 44, 32, 119, 104, 105, 99, 104, 32, 116, 104, 101, 32, 99, 108, 97, 115, 115, 105, 99, 32, 112, 114, 111, 102, 105, 108, 101, 32, 99, 97, 110, 110, 111, 116, 32, 107, 110, 111, 119, 32, 102, 114, 111, 109, 32, 116, 104, 101, 32, 115, 99, 101, 110, 97, 114, 105, 111]⟩
def k2 : ByteArray := ⟨#[117, 116, 102, 56, 109, 98, 52, 95, 103, 101, 110, 101, 114, 97, 108, 95, 99, 105, 44, 32, 116, 104, 101, 32, 100, 101, 102, 97, 117, 108, 116, 32, 111, 102, 32, 99, 104, 97, 114, 97, 99, 116, 101, 114, 32, 115, 101, 116, 32, 117, 116, 102, 56, 109, 98, 52, 32, 105, 110, 32, 116, 104, 101, 32, 99, 108, 97, 115, 115, 105, 99, 32, 112, 114, 111, 102, 105, 108, 101]⟩
def utf : ByteArray := ⟨#[117, 116, 102, 56, 109, 98, 52]⟩
def emp : ByteArray := ⟨#[]⟩

theorem bytes8_no (p : Int) (s : ByteArray) (w : World) (h : 1048576 < s.size) (hm : s.size ≤ 9223372036854775807) : Calls Try.prog 8 #[.int .i64 p, .string s] w fun e w' => e = .returned (.bool false) ∧ w' = w := by
  go_enter Try.func8, Try.ntmps8
  go_wp2
  go_ret
  exact ⟨rfl, rfl⟩
theorem bytes8_yes (p : Int) (s : ByteArray) (w : World) (h : s.size ≤ 1048576) : Calls Try.prog 8 #[.int .i64 p, .string s] w fun e w' => e = .returned (.bool true) ∧ w' = w := by
  go_enter Try.func8, Try.ntmps8
  go_wp2
  go_ret
  exact ⟨rfl, rfl⟩

theorem dc11_other (p : Int) (s : ByteArray) (w : World) (h1 : (s.toList == []) = false) (h2 : (s.toList == [117, 116, 102, 56, 109, 98, 52]) = false) (h : s.size ≤ 65536) : Calls Try.prog 11 #[.int .i64 p, .string s] w fun e w' => e = .returned (.string (pfx ++ s)) ∧ w' = w := by
  go_enter Try.func11, Try.ntmps11
  go_wp2
  go_ret
  exact ⟨rfl, rfl⟩
theorem dc11_cur_e (w : World) : Calls Try.prog 11 #[.int .i64 0, .string emp] w fun e w' => e = .returned (.string nmC) ∧ w' = w := by
  unfold emp
  go_enter Try.func11, Try.ntmps11
  go_wp2
  go_ret
  exact ⟨rfl, rfl⟩
theorem dc11_cur_u (w : World) : Calls Try.prog 11 #[.int .i64 0, .string utf] w fun e w' => e = .returned (.string nmC) ∧ w' = w := by
  unfold utf
  go_enter Try.func11, Try.ntmps11
  go_wp2
  go_ret
  exact ⟨rfl, rfl⟩
theorem dc11_cls_e (p : Int) (w : World) (h : (p == 0) = false) : Calls Try.prog 11 #[.int .i64 p, .string emp] w fun e w' => e = .returned (.string k1) ∧ w' = w := by
  unfold emp
  go_enter Try.func11, Try.ntmps11
  go_wp2
  go_ret
  exact ⟨rfl, rfl⟩
theorem dc11_cls_u (p : Int) (w : World) (h : (p == 0) = false) : Calls Try.prog 11 #[.int .i64 p, .string utf] w fun e w' => e = .returned (.string k2) ∧ w' = w := by
  unfold utf
  go_enter Try.func11, Try.ntmps11
  go_wp2
  go_ret
  exact ⟨rfl, rfl⟩

theorem dc9 (p : Int) (s k : ByteArray) (w : World) (h : Calls Try.prog 11 #[.int .i64 p, .string s] w fun e w' => e = .returned (.string k) ∧ w' = w) : Calls Try.prog 9 #[.int .i64 p, .string s] w fun e w' => e = .returned (.string k) ∧ w' = w := by
  have H := hid h
  clear h
  go_enter Try.func9, Try.ntmps9
  go_wp2_with fail
  refine H.out.mono ?_
  rintro e w' ⟨rfl, rfl⟩
  go_wp2_with fail
  go_ret
  exact ⟨rfl, rfl⟩

set_option maxHeartbeats 400000 in
theorem suffix10 (s suf : ByteArray) (off : Nat) (w : World) (hs : s.size = off + suf.size) (hsz : s.size ≤ 1048576) (hpt : ∀ k (h : k < suf.size) (h2 : off + k < s.size), s[off + k] = suf[k]) :
    Calls Try.prog 10 #[.string s, .string suf] w fun e w' => e = .returned (.bool true) ∧ ∃ n, w' = w.drewN n := by
  have hle : suf.size ≤ s.size := by omega
  have HS := hid hs
  have HO : Hid ((s.size : Int) - (suf.size : Int) = (off : Int)) := by show _ = _; omega
  have HP := hid hpt
  have hbd : ∀ k, k < suf.size → off + k < s.size := fun k hk => by omega
  have HBD := hid hbd
  have hoff : off ≤ 1048576 := by omega
  have hd0 : decide (s.size < suf.size) = false := by simp; omega
  clear hs hpt hbd
  go_enter Try.func10, Try.ntmps10
  go_wp2
  rw [HO.out]
  go_loopw [6] (fun i wr => ∃ k n : Nat, k ≤ suf.size ∧ i = .int .i64 k ∧ Hid (wr = w.drewN n)) (fun i _ => suf.size - (intOf i).toNat)
  case atStart => exact ⟨0, 0, Nat.zero_le _, rfl, rfl⟩
  case round =>
    obtain ⟨k, n, hk, rfl, HW⟩ := hrel
    by_cases hlt : k < suf.size
    · have hb := HBD.out k hlt
      have hc : (((s[off + k]'hb).toNat : Int) != ((suf[k]).toNat : Int)) = false := by
        have := HP.out k hlt hb
        simp [this]
      have hix : ∀ w : World, (Instr.index 9 (.string s) (.int .i64 (IntKind.i64.wrap ((off : Int) + (k : Int))))).run Try.prog w = .ok (.int .u8 ((s[off + k]'hb).toNat : Int)) w := by
        intro w
        have e1 : IntKind.i64.wrap ((off : Int) + (k : Int)) = ((off + k : Nat) : Int) := by rw [IntKind.wrap_i64]; omega
        rw [e1, run_index_string (h := Try.underlying9), dif_pos (by omega)]
        rfl
      go_wp2
      go_quiet (fail)
      go_wp2
      go_roundw
      case rel => exact ⟨k + 1, n + nq, by omega, by go_num, by show _ = _; rw [HW.out, World.drewN_drewN]⟩
      case measure => simp [intOf]; omega
    · obtain rfl : k = suf.size := by omega
      go_wp2
      go_ret
      exact ⟨rfl, n, HW.out⟩

end Go.Proofs.Qxb6003637a
