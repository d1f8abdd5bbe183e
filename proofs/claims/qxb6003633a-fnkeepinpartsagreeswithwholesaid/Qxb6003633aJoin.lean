import Derived.Test.Qxb6003633aNewPart
import Derived.Test.Qxb6003633aNewPart2
import Derived.Test.Qxb6003633aKeepNil
import Derived.Test.Qxb6003633aKeepSome
import Derived.Test.Qxb6003633aLaw
namespace Go.Proofs.Qxb6003633a
open Go.RowKit Go.Maps
set_option linter.unusedVariables false

def tvOf (rt : Option Nat) (n : Nat) : Value := match rt with | none => .slice none 0 0 | some gt => .slice (some ⟨gt, 0, none⟩) n n

theorem part28 (a0 a1 a2 a3 a4 a5 : Option Addr) (c0 c1 c2 c3 c4 c5 : Nat) (M Li H R : List Int) (Ms : List ByteArray) (E : List Int) (w : World)
    (C0 : Cs (Value.int .i32) 0 w a0 M) (C1 : Cs (Value.int .u32) 0 w a1 Li) (C2 : Cs (Value.int .i64) 0 w a2 H) (C3 : Cs (Value.int .i64) 0 w a3 R) (C4 : Cs Value.string ByteArray.empty w a4 Ms) (C5 : Cs (Value.int .i64) 0 w a5 E)
    (hM : M.length ≤ 262144) (hLi : Li.length = M.length) (hH : H.length = M.length) (hR : a3.isNone = false → R.length = M.length) (hE : E.length = Ms.length) (hMs : Ms.length ≤ 4096) :
    Calls Try.prog 28 #[.slice a0 M.length c0, .slice a1 Li.length c1, .slice a2 H.length c2, .slice a3 R.length c3, .slice a4 Ms.length c4, .slice a5 E.length c5] w fun e w' => ∃ p gr gu rt, e = .returned (.pointer (some ⟨p, 0, none⟩)) ∧ Hid (PartAt w' p gr gu (tvOf rt M.length) M Li H R rt.isNone Ms E) ∧ rt.isNone = a3.isNone ∧ Hid (Nx w w') := by
  cases a3 with
  | none =>
    have h0 := C3.none_nil
    have hnil : R = [] := List.eq_nil_of_length_eq_zero h0
    subst hnil
    refine (newPart_nil a0 a1 a2 a4 a5 c0 c1 c2 c3 c4 c5 M Li H [] Ms E w C0 C1 C2 C4 C5 hM hLi hH hE hMs).mono ?_
    rintro e w' ⟨p, gr, gu, tv, rfl, H1, H2⟩
    refine ⟨p, gr, gu, none, rfl, ?_, rfl, H2⟩
    have htv : tv = .slice none 0 0 := by
      rcases H1.out.rates with ⟨_, h⟩ | ⟨h, _⟩
      · exact h
      · cases h
    rw [htv] at H1
    exact H1
  | some x3 =>
    refine (newPart_some a0 a1 a2 a4 a5 x3 c0 c1 c2 c3 c4 c5 M Li H R Ms E w C0 C1 C2 C3 C4 C5 hM hLi hH (hR rfl) hE hMs).mono ?_
    rintro e w' ⟨p, gr, gu, tv, rfl, H1, H2⟩
    rcases H1.out.rates with ⟨h, _⟩ | ⟨_, gt, htv, _⟩
    · cases h
    · refine ⟨p, gr, gu, some gt, rfl, ?_, rfl, H2⟩
      rw [htv] at H1
      exact H1

theorem keep42 (W p bm base gr gu : Nat) (rt : Option Nat) (sv0 : Value) (svs0 : List Value) (st : List (List UInt8) × Sp) (M Li H R : List Int) (Ms : List ByteArray) (E : List Int) (w : World) (N : Nat)
    (hwork : WorkAt w W bm base sv0 svs0 st.1 st.2) (hpart : PartAt w p gr gu (tvOf rt M.length) M Li H R rt.isNone Ms E) (hE : E.length = Ms.length) (hok : EndsOk E M.length E.length) (hM : M.length ≤ 262144) (hMs : Ms.length ≤ 4096)
    (hshort : ∀ k, k < Ms.length → (Ms.getD k ByteArray.empty).size ≤ 1048576) (hbd : Bd st N) (hN : N ≤ 8192) :
    Calls Try.prog 42 #[.pointer (some ⟨W, 0, none⟩), .pointer (some ⟨p, 0, none⟩)] w fun e w' => e = .returned (.tuple #[]) ∧ ∃ sv svs, Hid (WorkAt w' W bm base sv svs (stK st gr rt Ms E Ms.length).1 (stK st gr rt Ms E Ms.length).2) ∧ Hid (KFrame base w w') := by
  cases rt with
  | none => exact keep_nil W p bm base gr gu sv0 svs0 st M Li H R Ms E w N hwork hpart hE hok hM hMs hshort hbd hN
  | some gt => exact keep_some W p bm base gr gu gt sv0 svs0 st M Li H R Ms E w N hwork hpart hE hok hM hMs hshort hbd hN

set_option maxHeartbeats 400000 in
theorem keep27 (W p bm base gr gu : Nat) (rt : Option Nat) (sv0 : Value) (svs0 : List Value) (st : List (List UInt8) × Sp) (M Li H R : List Int) (Ms : List ByteArray) (E : List Int) (w : World) (N : Nat)
    (hwork : WorkAt w W bm base sv0 svs0 st.1 st.2) (hpart : PartAt w p gr gu (tvOf rt M.length) M Li H R rt.isNone Ms E) (hE : E.length = Ms.length) (hok : EndsOk E M.length E.length) (hM : M.length ≤ 262144) (hMs : Ms.length ≤ 4096)
    (hshort : ∀ k, k < Ms.length → (Ms.getD k ByteArray.empty).size ≤ 1048576) (hbd : Bd st N) (hN : N ≤ 8192) :
    Calls Try.prog 27 #[.pointer (some ⟨W, 0, none⟩), .pointer (some ⟨p, 0, none⟩)] w fun e w' => e = .returned (.tuple #[]) ∧ ∃ sv svs, Hid (WorkAt w' W bm base sv svs (stK st gr rt Ms E Ms.length).1 (stK st gr rt Ms E Ms.length).2) ∧ Hid (KFrame base w w') := by
  have HC := hid (keep42 W p bm base gr gu rt sv0 svs0 st M Li H R Ms E w N hwork hpart hE hok hM hMs hshort hbd hN)
  clear hwork hpart hE hok hshort hbd
  go_enter Try.func27, Try.ntmps27
  go_wp2_with fail
  refine HC.out.mono ?_
  rintro e w' ⟨rfl, sv, svs, H1, H2⟩
  go_wp2_with fail
  go_end0
  exact ⟨rfl, sv, svs, H1, H2⟩

/-- an empty Work as ZZNewWork lays it -/
theorem work_new (w : World) : WorkAt ((w.alloc (.map #[] 0)).alloc (.cells #[.string ByteArray.empty, .bool false, .map (some w.heap.size), .slice none 0 0] 76)) (w.heap.size + 1) w.heap.size w.heap.size (.slice none 0 0) [] [] [] := by
  refine ⟨by omega, Nat.le_refl _, by simp; omega, ?_, ?_, World.ownsRow_nil _ _ _ _, fun i hi => by simp at hi, fun i j hi => by simp at hi⟩
  · have e : (w.alloc (.map #[] 0)).heap.size = w.heap.size + 1 := by simp
    rw [← e]
    exact alloc_last _ _
  · exact (MapIs.made w).of_block (Below.heap_alloc _ _ _ (by simp))
theorem bd_new : Bd ([], []) 0 := ⟨rfl, Nat.le_refl _, fun i => by simp⟩

end Go.Proofs.Qxb6003633a
