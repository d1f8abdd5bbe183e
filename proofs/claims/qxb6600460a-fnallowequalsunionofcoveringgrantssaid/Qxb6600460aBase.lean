import Derived.Test.Qxb6600460aChecked
import Derived.WalkKit
import Derived.WalkSpells
import Derived.BigQuiet
import Derived.Deep.QuietTactic
import Derived.Lib.SliceRun
namespace Go.Proofs.Qxb6600460a
open Go.RowKit

theorem hid {p : Prop} (h : p) : Hid p := h
theorem ret_int {k : IntKind} {a b : Int} (h : a = b) : Ending.returned (.int k a) = .returned (.int k b) := by rw [h]
theorem ret_bool {a b : Bool} (h : a = b) : Ending.returned (.bool a) = .returned (.bool b) := by rw [h]

/-- nothing old has turned -/
def Nx (w w' : World) : Prop := Below w.heap.size w w'
theorem Nx.refl (w : World) : Nx w w := Below.refl _ _
theorem Nx.trans {a b c : World} (h : Nx a b) (k : Nx b c) : Nx a c := Below.trans h (Below.mono k h.size)
theorem Nx.drewN (w : World) (n : Nat) : Nx w (w.drewN n) := ⟨rfl, rfl, rfl, Nat.le_refl _, fun _ _ => rfl⟩
theorem Nx.alloc (w : World) (o : Obj) : Nx w (w.alloc o) := (Below.refl _ _).alloc (Nat.le_refl _) _

theorem cell_lt {w : World} {a : Addr} {v : Value} (h : w.cell? a = some v) : a.block < w.heap.size := by
  unfold World.cell? at h
  cases hh : w.heap[a.block]? with
  | none => rw [hh] at h; simp at h
  | some o => exact (Array.getElem?_eq_some_iff.1 hh).1
theorem lt_of_some {w : World} {g : Nat} {o : Obj} (h : w.heap[g]? = some o) : g < w.heap.size := (Array.getElem?_eq_some_iff.1 h).1
theorem Nx.cell {w w' : World} (h : Nx w w') {a : Addr} {v : Value} (hc : w.cell? a = some v) : w'.cell? a = some v := (Below.cell h (cell_lt hc)).trans hc
theorem alloc_last (w : World) (o : Obj) : (w.alloc o).heap[w.heap.size]? = some o := by
  show (w.heap.push o)[w.heap.size]? = some o
  simp

section
variable {α : Type} (f : α → Value) (d : α)

/-- a slice at 'ao' reads the elements L, one cell each -/
def Cs (w : World) (ao : Option Addr) (L : List α) : Prop := ∀ j, j < L.length → ∃ g off, ao = some ⟨g, off, none⟩ ∧ w.cell? ⟨g, off + j, none⟩ = some (f (L.getD j d))
theorem Cs.later {f : α → Value} {d : α} {w w' : World} {ao : Option Addr} {L : List α} (h : Cs f d w ao L) (hb : Nx w w') : Cs f d w' ao L := by
  intro j hj
  obtain ⟨g, off, e, hc⟩ := h j hj
  exact ⟨g, off, e, hb.cell hc⟩
theorem Cs.drewN {f : α → Value} {d : α} {w : World} {ao : Option Addr} {L : List α} (h : Cs f d w ao L) (n : Nat) : Cs f d (w.drewN n) ao L := h
theorem Cs.none_nil {f : α → Value} {d : α} {w : World} {L : List α} (h : Cs f d w none L) : L.length = 0 := by
  rcases Nat.eq_zero_or_pos L.length with h0 | h0
  · exact h0
  · obtain ⟨g, off, e, _⟩ := h 0 h0
    cases e

/-- block g is a row of the elements L, under type t -/
def RowF (w : World) (g t : Nat) (L : List α) : Prop := w.heap[g]? = some (.cells (L.map f).toArray t (0, 0))
theorem RowF.cell {f : α → Value} {w : World} {g t : Nat} {L : List α} (h : RowF f w g t L) (d : α) (j : Nat) (hj : j < L.length) : w.cell? ⟨g, j, none⟩ = some (f (L.getD j d)) := by
  unfold RowF at h
  simp [World.cell?, h, List.getD, hj]
theorem RowF.frozen {f : α → Value} {w : World} {g t : Nat} {L : List α} (h : RowF f w g t L) (j : Nat) : w.frozen? ⟨g, j, none⟩ = false := frozen_of_row w g j _ t h
theorem RowF.set {f : α → Value} {w : World} {g t : Nat} {L : List α} (h : RowF f w g t L) (j : Nat) (v : α) : RowF f (w.setCell ⟨g, j, none⟩ (f v)) g t (L.set j v) := by
  unfold RowF
  rw [heap_setCell_same w g j _ t _ h, List.setIfInBounds_toArray, List.map_set]

/-- k of the elements L are in place, the rest is zero -/
def fillTo (L : List α) (k : Nat) : List α := L.take k ++ List.replicate (L.length - k) d
theorem fillTo_len (L : List α) (k : Nat) (h : k ≤ L.length) : (fillTo d L k).length = L.length := by
  simp [fillTo]; omega
theorem fillTo_zero (L : List α) : fillTo d L 0 = List.replicate L.length d := by simp [fillTo]
theorem fillTo_all (L : List α) : fillTo d L L.length = L := by simp [fillTo]
theorem fillTo_step (L : List α) (k : Nat) (h : k < L.length) : (fillTo d L k).set k (L.getD k d) = fillTo d L (k + 1) := by
  have ht : (L.take k).length = k := by rw [List.length_take]; omega
  unfold fillTo
  rw [List.set_append_right _ _ (by omega), ht, Nat.sub_self, List.take_succ_eq_append_getElem h, List.append_assoc]
  obtain ⟨m, hm⟩ : ∃ m, L.length - k = m + 1 := ⟨L.length - k - 1, by omega⟩
  have hm2 : L.length - (k + 1) = m := by omega
  rw [hm, hm2, List.replicate_succ]
  simp [List.getD, h]

theorem made_row (w : World) (n t : Nat) : RowF f (w.alloc (.cells (madeCells #[f d] n) t)) w.heap.size t (List.replicate n d) := by
  unfold RowF
  rw [alloc_last]
  have e2 : madeCells #[f d] n = ((List.replicate n d).map f).toArray := by
    apply Array.ext'
    rw [toList_madeCells_one]
    simp
  rw [e2]

theorem row_set {f : α → Value} {d : α} {w wr : World} {g k t : Nat} {L : List α} (HR : Hid (RowF f wr g t (fillTo d L k))) (hb : Below g w wr) (hk : k < L.length) (x : α) (hx : x = L.getD k d) :
    Hid (RowF f (wr.setCell ⟨g, k, none⟩ (f x)) g t (fillTo d L (k + 1))) ∧ Below g w (wr.setCell ⟨g, k, none⟩ (f x)) := by
  refine ⟨?_, hb.setCell (Nat.le_refl _) _⟩
  have := HR.out.set k x
  rw [hx, fillTo_step d L k hk] at this
  rw [hx]
  exact this
theorem RowF.cs {f : α → Value} {w : World} {g t : Nat} {L : List α} (h : RowF f w g t L) (d : α) : Cs f d w (some ⟨g, 0, none⟩) L :=
  fun j hj => ⟨g, 0, rfl, by rw [Nat.zero_add]; exact h.cell d j hj⟩
end


/-- a grant as it lies in three cells: its type, its name, the slice of its actions -/
structure Gr where
  ty : ByteArray
  nm : ByteArray
  ao : Option Addr
  cap : Nat
  acts : List ByteArray
instance : Inhabited Gr := ⟨⟨ByteArray.empty, ByteArray.empty, none, 0, []⟩⟩

abbrev Ss (w : World) (ao : Option Addr) (L : List ByteArray) : Prop := Cs Value.string ByteArray.empty w ao L

def GrAt (w : World) (g off : Nat) (x : Gr) : Prop :=
  w.cell? ⟨g, off, none⟩ = some (.string x.ty) ∧ w.cell? ⟨g, off + 1, none⟩ = some (.string x.nm) ∧ w.cell? ⟨g, off + 2, none⟩ = some (.slice x.ao x.acts.length x.cap) ∧ Ss w x.ao x.acts
theorem GrAt.later {w w' : World} {g off : Nat} {x : Gr} (h : GrAt w g off x) (hb : Nx w w') : GrAt w' g off x :=
  ⟨hb.cell h.1, hb.cell h.2.1, hb.cell h.2.2.1, h.2.2.2.later hb⟩

def Gs (w : World) (ao : Option Addr) (G : List Gr) : Prop := ∀ j, j < G.length → ∃ g off, ao = some ⟨g, off, none⟩ ∧ GrAt w g (off + j * 3) (G.getD j default)
theorem Gs.later {w w' : World} {ao : Option Addr} {G : List Gr} (h : Gs w ao G) (hb : Nx w w') : Gs w' ao G := by
  intro j hj
  obtain ⟨g, off, e, hc⟩ := h j hj
  exact ⟨g, off, e, hc.later hb⟩

end Go.Proofs.Qxb6600460a
