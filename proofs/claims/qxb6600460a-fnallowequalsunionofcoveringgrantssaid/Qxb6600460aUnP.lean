import Derived.Test.Qxb6600460aAllow
import Derived.Test.Qxb6600460aBytes
namespace Go.Proofs.Qxb6600460a
open Go.RowKit

def covs (t s : ByteArray) (x : Gr) : Bool := cov x.ty.data.toList x.nm.data.toList t.data.toList s.data.toList
/-- the union of the actions of the grants that cover the resource -/
def un (t s : ByteArray) (G : List Gr) : List ByteArray := G.flatMap (fun x => if covs t s x then x.acts else [])

theorem take_succ_getD {α : Type} (G : List α) (d : α) (k : Nat) (h : k < G.length) : G.take (k + 1) = G.take k ++ [G.getD k d] := by
  rw [List.take_succ_eq_append_getElem h]
  simp [List.getD, h]
theorem un_take (t s : ByteArray) (G : List Gr) (k : Nat) (h : k < G.length) : un t s (G.take (k + 1)) = un t s (G.take k) ++ (if covs t s (G.getD k default) then (G.getD k default).acts else []) := by
  rw [take_succ_getD G default k h]
  simp [un, List.flatMap_append]
theorem un_len (t s : ByteArray) (G : List Gr) : (un t s G).length ≤ tot G := by
  induction G with
  | nil => simp [un, tot]
  | cons x G ih =>
    have e1 : un t s (x :: G) = (if covs t s x then x.acts else []) ++ un t s G := by simp [un]
    have e2 : tot (x :: G) = wt x + tot G := by simp [tot]
    rw [e1, e2, List.length_append]
    have : (if covs t s x then x.acts else []).length ≤ wt x := by
      unfold wt
      split
      · omega
      · simp
    omega
theorem tot_take_le (G : List Gr) (k : Nat) : tot (G.take k) ≤ tot G := by
  have h2 : tot G = tot (G.take k) + tot (G.drop k) := by
    unfold tot
    rw [← List.sum_append, ← List.map_append, List.take_append_drop]
  omega
theorem un_take_len (t s : ByteArray) (G : List Gr) (k : Nat) : (un t s (G.take k)).length ≤ tot G := Nat.le_trans (un_len t s _) (tot_take_le G k)

theorem containsS_append (U : List ByteArray) (y z : ByteArray) : Lib.containsS (U ++ [y]) z = (Lib.containsS U z || (y.toList == z.toList)) := by
  rw [Bool.eq_iff_iff, Bool.or_eq_true, Lib.containsS_iff, Lib.containsS_iff, List.mem_append, Lib.bytes_beq_iff]
  simp only [List.mem_singleton]
  constructor
  · rintro (h | h)
    · exact .inl h
    · exact .inr h.symm
  · rintro (h | h)
    · exact .inl h
    · exact .inr h.symm
theorem mem_un (t s a : ByteArray) (G : List Gr) : a ∈ un t s G ↔ ∃ x, x ∈ G ∧ covs t s x = true ∧ a ∈ x.acts := by
  unfold un
  rw [List.mem_flatMap]
  constructor
  · rintro ⟨x, hx, ha⟩
    by_cases h : covs t s x = true
    · rw [if_pos h] at ha
      exact ⟨x, hx, h, ha⟩
    · rw [if_neg h] at ha
      cases ha
  · rintro ⟨x, hx, h, ha⟩
    exact ⟨x, hx, by rw [if_pos h]; exact ha⟩

/-- one action: some grant gives it, or the union holds it, or the union holds "*" -/
theorem any_gives (t s a : ByteArray) (G : List Gr) : G.any (gives t s a) = (Lib.containsS (un t s G) a || Lib.containsS (un t s G) starB) := by
  rw [Bool.eq_iff_iff, Bool.or_eq_true, Lib.containsS_iff, Lib.containsS_iff, mem_un, mem_un, List.any_eq_true]
  constructor
  · rintro ⟨x, hx, h⟩
    unfold gives at h
    rw [Bool.and_eq_true, Bool.or_eq_true, Lib.containsS_iff, Lib.containsS_iff] at h
    rcases h.2 with h2 | h2
    · exact .inl ⟨x, hx, h.1, h2⟩
    · exact .inr ⟨x, hx, h.1, h2⟩
  · rintro (⟨x, hx, h1, h2⟩ | ⟨x, hx, h1, h2⟩)
    · refine ⟨x, hx, ?_⟩
      unfold gives
      rw [Bool.and_eq_true, Bool.or_eq_true, Lib.containsS_iff, Lib.containsS_iff]
      exact ⟨h1, .inl h2⟩
    · refine ⟨x, hx, ?_⟩
      unfold gives
      rw [Bool.and_eq_true, Bool.or_eq_true, Lib.containsS_iff, Lib.containsS_iff]
      exact ⟨h1, .inr h2⟩

def got (t s : ByteArray) (A : List ByteArray) (G : List Gr) : Bool := decide (0 < A.length) && A.all (fun a => G.any (gives t s a))
theorem got_none (t s : ByteArray) (A : List ByteArray) (G : List Gr) (h : A.length = 0) : got t s A G = false := by simp [got, h]
theorem got_star (t s : ByteArray) (A : List ByteArray) (G : List Gr) (h : 0 < A.length) (hs : Lib.containsS (un t s G) starB = true) : got t s A G = true := by
  unfold got
  rw [decide_eq_true h, Bool.true_and, List.all_eq_true]
  intro a _
  rw [any_gives, hs, Bool.or_true]
theorem got_all (t s : ByteArray) (A : List ByteArray) (G : List Gr) (h : 0 < A.length) (hs : ∀ j, j < A.length → Lib.containsS (un t s G) (A.getD j ByteArray.empty) = true) : got t s A G = true := by
  unfold got
  rw [decide_eq_true h, Bool.true_and]
  refine all_hit (d := ByteArray.empty) (fun j hj => ?_)
  rw [any_gives, hs j hj, Bool.true_or]
theorem got_miss (t s : ByteArray) (A : List ByteArray) (G : List Gr) (k : Nat) (h : k < A.length) (hs : Lib.containsS (un t s G) starB = false) (hk : Lib.containsS (un t s G) (A.getD k ByteArray.empty) = false) : got t s A G = false := by
  unfold got
  rw [all_miss (d := ByteArray.empty) h (by rw [any_gives, hs, hk]; rfl), Bool.and_false]

end Go.Proofs.Qxb6600460a
