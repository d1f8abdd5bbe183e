import Derived.Test.Qxb6003660aStarts
import Derived.Test.Qxb6003660aKeyPlain
namespace Go.Proofs.Qxb6003660a
open Go.RowKit

/-- the byte slice v is the call's own, from block 'base' on, and holds L -/
def Own8 (w : World) (base : Nat) (v : Value) (L : List Int) : Prop := w.ownsRow base 5 1 v L.length (L.map (Value.int .u8))

/-- what stays true round by round in appendNameKey -/
structure Inv (w wr : World) (base g : Nat) (S : List Int) (v : Value) (X : List Int) : Prop where
  own : Own8 wr base v X
  row : Row8 wr g 57 S
  below : Below base w wr
  hbase : base ≤ wr.heap.size

theorem lt_of_some {w : World} {g : Nat} {o : Obj} (h : w.heap[g]? = some o) : g < w.heap.size := (Array.getElem?_eq_some_iff.1 h).1

theorem Own8.apart {wr : World} {base g : Nat} {S : List Int} {v : Value} {X : List Int} (h : Own8 wr base v X) (hr : Row8 wr g 57 S) : v.ownBlock ≠ some g := by
  intro e
  rcases h.2 with ⟨hv, _⟩ | ⟨g', cap, cur, hv, _, hh, _⟩
  · rw [hv] at e; simp [Value.ownBlock] at e
  · rw [hv] at e
    simp [Value.ownBlock] at e
    subst e
    unfold Row8 at hr
    rw [hr] at hh
    simp at hh

theorem Inv.step {w wr w' : World} {base g : Nat} {S : List Int} {v v' : Value} {X news : List Int} {o : Obj} (h : Inv w wr base g S v X) (hown : Own8 w' base v' (X ++ news)) (hg : (wr.alloc o).grownBy w' v.ownBlock) : Inv w w' base g S v' (X ++ news) := by
  have hlt := lt_of_some h.row
  refine ⟨hown, ?_, ?_, ?_⟩
  · unfold Row8
    rw [hg.block g (by simp; omega) (fun e => h.own.apart h.row e.symm), Below.heap_alloc _ _ _ hlt]
    exact h.row
  · exact (h.below.alloc h.hbase o).grown hg (by have := h.hbase; simp; omega) (fun k hk => (h.own.lt k hk).1)
  · have := hg.size; have := h.hbase; simp at *; omega

theorem wpList_inv {ops : Array Oper} {rest : List Oper} {o : Oper} {a : Act} {Q : Exit → Act → World → Prop} {w wr : World} {base g : Nat} {S : List Int} {v : Value} {X : List Int} (HI : Hid (Inv w wr base g S v X)) (hgd : o.guard = none) (s x : Operand)
    (ho : o.op = .call { callee := .builtin .append, args := #[s, x], argTypes := #[22, 22] }) (hs : a.eval s = v) (news : List Int) (ob : Array Value) (hob : ob = (news.map (Value.int .u8)).toArray) (m : Nat) (hm : news.length = m) (c : Nat) (hx : a.eval x = .slice (some ⟨wr.heap.size, 0, none⟩) m c)
    (hlen : X.length + m ≤ 4194304)
    (h : ∀ v' w', Hid (Inv w w' base g S v' (X ++ news)) → wpList Try.prog ops Q rest (a.put o.dst v') w') : wpList Try.prog ops Q (o :: rest) a (wr.alloc (.cells ob 5)) := by
  obtain ⟨i0, hi, hz0, hz1, hz2⟩ := info_parts info5
  have I := HI.out
  subst hob
  have hmx : X.length + m ≤ maxLen := by unfold maxLen; omega
  refine wpList_append_own _ hgd s x 22 ho base 5 i0 (.int .u8 0) 1 1 Try.underlying22 hi hz0 hz1 hz2 rfl (by decide) v X.length (X.map (Value.int .u8)) hs (World.ownsRow.alloc I.own _) ⟨wr.heap.size, 0, none⟩ m c (news.map (Value.int .u8)) hx (by simp [hm]) ?_ (ints_oneCell _ _) hmx (by omega) (by have := I.hbase; simp; omega) ?_
  · intro j u hj
    rw [Addr.add_lit, Nat.zero_add, World.cell?_alloc_new]
    simpa using hj
  · intro v' w' hown hg _
    refine h v' w' ?_
    have hown' : Own8 w' base v' (X ++ news) := by
      unfold Own8
      rw [List.length_append, List.map_append, hm]
      exact hown
    exact I.step hown' hg

end Go.Proofs.Qxb6003660a
