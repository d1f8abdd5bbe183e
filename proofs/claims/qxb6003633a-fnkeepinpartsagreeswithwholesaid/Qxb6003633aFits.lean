import Derived.Test.Qxb6003633aClones
namespace Go.Proofs.Qxb6003633a
open Go.RowKit

def SomeBool (e : Ending) : Prop := ∃ b, e = .returned (.bool b)

set_option maxHeartbeats 1000000 in
theorem bytes19 (a0 a1 a2 a3 a4 a5 : Option Addr) (n0 n1 n2 n3 n5 c0 c1 c2 c3 c4 c5 : Nat) (L : List ByteArray) (w : World) (h4 : Cs Value.string ByteArray.empty w a4 L)
    (b0 : n0 ≤ 9223372036854775807) (b1 : n1 ≤ 9223372036854775807) (b2 : n2 ≤ 9223372036854775807) (b3 : n3 ≤ 9223372036854775807) (b4 : L.length ≤ 9223372036854775807) (b5 : n5 ≤ 9223372036854775807) :
    Calls Try.prog 19 #[.slice a0 n0 c0, .slice a1 n1 c1, .slice a2 n2 c2, .slice a3 n3 c3, .slice a4 L.length c4, .slice a5 n5 c5] w fun e w' => SomeBool e ∧ w' = w := by
  have HC := hid h4; clear h4
  by_cases hb : n0 + n1 + n2 + n3 + L.length ≤ 1048576
  rotate_left
  · go_enter Try.func19, Try.ntmps19
    go_wp2
    all_goals (go_ret; exact ⟨⟨_, rfl⟩, rfl⟩)
  go_enter Try.func19, Try.ntmps19
  go_wp2
  go_loop [13, 14] (fun z i => ∃ k s : Nat, k ≤ L.length ∧ i = .int .i64 k ∧ z = .int .i64 s ∧ s ≤ 1048576) (fun _ i => L.length - (intOf i).toNat)
  case atStart => exact ⟨0, n0 + n1 + n2 + n3 + L.length, by omega, rfl, by go_num, hb⟩
  case round =>
    obtain ⟨k, s, hk, rfl, rfl, hs⟩ := hrel
    by_cases h1 : k < L.length
    · obtain ⟨g, off, hx, hx0⟩ := HC.out k h1
      subst hx
      generalize L.getD k ByteArray.empty = b at hx0
      by_cases h2 : 1048576 < b.size
      · go_wp2
        go_ret
        exact ⟨⟨_, rfl⟩, rfl⟩
      by_cases h3 : 1048576 < s + b.size
      · go_wp2
        go_ret
        exact ⟨⟨_, rfl⟩, rfl⟩
      go_wp2
      go_round
      case rel => exact ⟨k + 1, s + b.size, by omega, by go_num, by go_num, by omega⟩
      case measure => simp [intOf]; omega
    · go_wp2
      all_goals (go_ret; exact ⟨⟨_, rfl⟩, rfl⟩)

/-- what zzPartFitsRB1 finds -/
def prevE (E : List Int) (k : Nat) : Int := if k = 0 then 0 else E.getD (k - 1) 0
def EndsOk (E : List Int) (n k : Nat) : Prop := ∀ i, i < k → prevE E i ≤ E.getD i 0 ∧ E.getD i 0 ≤ (n : Int)
theorem prevE_succ (E : List Int) (k : Nat) : prevE E (k + 1) = E.getD k 0 := by unfold prevE; simp
theorem EndsOk.step {E : List Int} {n k : Nat} (h : EndsOk E n k) (h1 : prevE E k ≤ E.getD k 0) (h2 : E.getD k 0 ≤ (n : Int)) : EndsOk E n (k + 1) := by
  intro i hi
  by_cases e : i = k
  · subst e; exact ⟨h1, h2⟩
  · exact h i (by omega)

structure Fits (n0 n1 n2 n3 : Nat) (ratesNil : Bool) (L : List ByteArray) (E : List Int) : Prop where
  small : n0 ≤ 262144
  lines : n1 = n0
  hours : n2 = n0
  rates : ratesNil = false → n3 = n0
  rsmall : n3 ≤ 131072
  ends : E.length = L.length
  few : L.length ≤ 4096
  short : ∀ k, k < L.length → (L.getD k ByteArray.empty).size ≤ 1048576
  ok : EndsOk E n0 E.length

end Go.Proofs.Qxb6003633a
