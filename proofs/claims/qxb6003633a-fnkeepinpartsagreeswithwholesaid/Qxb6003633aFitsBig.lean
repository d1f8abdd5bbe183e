import Derived.Test.Qxb6003633aFits
namespace Go.Proofs.Qxb6003633a
open Go.RowKit
set_option linter.unusedVariables false

def FitsOut (e : Ending) (P : Prop) : Prop := e = .returned (.bool false) ∨ (e = .returned (.bool true) ∧ P)

set_option maxHeartbeats 2000000 in
theorem fits20_big (a0 a1 a2 a3 a4 a5 : Option Addr) (n0 n1 n2 n3 c0 c1 c2 c3 c4 c5 : Nat) (L : List ByteArray) (E : List Int) (w : World) (h4 : Cs Value.string ByteArray.empty w a4 L) (h5 : Cs (Value.int .i64) 0 w a5 E)
    (hE : ∀ k, -9223372036854775808 ≤ E.getD k 0 ∧ E.getD k 0 ≤ 9223372036854775807)
    (b0 : n0 ≤ 9223372036854775807) (b1 : n1 ≤ 9223372036854775807) (b2 : n2 ≤ 9223372036854775807) (b3 : n3 ≤ 9223372036854775807) (b4 : L.length ≤ 9223372036854775807) (b5 : E.length ≤ 9223372036854775807) (hA : ¬ (n0 ≤ 262144 ∧ n1 ≤ 262144 ∧ n2 ≤ 131072 ∧ n3 ≤ 131072 ∧ E.length ≤ 131072 ∧ L.length ≤ 4096)) :
    Calls Try.prog 20 #[.slice a0 n0 c0, .slice a1 n1 c1, .slice a2 n2 c2, .slice a3 n3 c3, .slice a4 L.length c4, .slice a5 E.length c5] w fun e w' => e = .returned (.bool false) ∧ w' = w := by
  clear h4 h5 hE
  by_cases g0 : n0 ≤ 262144
  rotate_left
  · go_enter Try.func20, Try.ntmps20
    go_wp2
    go_ret
    exact ⟨rfl, rfl⟩
  by_cases g1 : n1 ≤ 262144
  rotate_left
  · go_enter Try.func20, Try.ntmps20
    go_wp2
    go_ret
    exact ⟨rfl, rfl⟩
  by_cases g2 : n2 ≤ 131072
  rotate_left
  · go_enter Try.func20, Try.ntmps20
    go_wp2
    go_ret
    exact ⟨rfl, rfl⟩
  by_cases g3 : n3 ≤ 131072
  rotate_left
  · go_enter Try.func20, Try.ntmps20
    go_wp2
    go_ret
    exact ⟨rfl, rfl⟩
  by_cases g4 : E.length ≤ 131072
  rotate_left
  · go_enter Try.func20, Try.ntmps20
    go_wp2
    go_ret
    exact ⟨rfl, rfl⟩
  · have g5 : ¬ L.length ≤ 4096 := fun h => hA ⟨g0, g1, g2, g3, g4, h⟩
    clear hA
    go_enter Try.func20, Try.ntmps20
    go_wp2
    go_ret
    exact ⟨rfl, rfl⟩

end Go.Proofs.Qxb6003633a
