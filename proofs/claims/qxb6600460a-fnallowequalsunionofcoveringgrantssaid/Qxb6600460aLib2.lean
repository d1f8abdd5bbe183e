import Derived.Test.Qxb6600460aBase
import Derived.Test.Qxb6600460aLib
namespace Go.Proofs.Qxb6600460a
open Go.RowKit

theorem contains26 (ao : Option Addr) (L : List ByteArray) (cap : Nat) (x : ByteArray) (w : World) (h : Ss w ao L) (hL : L.length ≤ 9223372036854775807) :
    Calls Try.prog 26 #[.slice ao L.length cap, .string x] w fun e w' => e = .returned (.bool (Lib.containsS L x)) ∧ w' = w := by
  rcases Nat.eq_zero_or_pos L.length with h0 | h0
  · have hnil : L = [] := List.eq_nil_of_length_eq_zero h0
    subst hnil
    refine (slices_Contains_string_empty ao cap x w).mono ?_
    rintro e w' ⟨rfl, rfl⟩
    exact ⟨rfl, rfl⟩
  · obtain ⟨g, off, rfl, _⟩ := h 0 h0
    refine (slices_Contains_string g off L.length cap L x w (Nat.le_refl _) hL ?_).mono ?_
    · intro j hj
      obtain ⟨g', off', e, hc⟩ := h j hj
      cases e
      exact hc
    · rintro e w' ⟨rfl, rfl⟩
      exact ⟨by rw [List.take_length], rfl⟩

end Go.Proofs.Qxb6600460a
