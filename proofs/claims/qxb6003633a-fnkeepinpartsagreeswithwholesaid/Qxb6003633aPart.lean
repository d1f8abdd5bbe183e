import Derived.Test.Qxb6003633aFitsW
import Derived.Maps.OwnSet
import Derived.Deep.RegionHeld3
import Derived.Deep.AppendLies
namespace Go.Proofs.Qxb6003633a
open Go.RowKit Go.Maps
set_option linter.unusedVariables false

theorem info80 : (Try.prog.info? 80).map (fun i => (i.zero, i.size, i.bytes)) = some (some (.agg #[.int .i32 0, .int .u32 0, .int .i64 0]), 3, 16) := by kernel_rfl
theorem info84 : (Try.prog.info? 84).map (fun i => (i.zero, i.size, i.bytes)) = some (some (.agg #[.string ByteArray.empty, .int .i64 0, .bool false, .int .i64 0]), 4, 40) := by kernel_rfl
theorem info35 : (Try.prog.info? 35).map (fun i => (i.zero, i.size, i.bytes)) = some (some (.int .i64 0), 1, 8) := by kernel_rfl
theorem info90 : (Try.prog.info? 90).map (fun i => (i.zero, i.size, i.bytes)) = some (some (.agg #[.slice none 0 0, .slice none 0 0]), 2, 48) := by kernel_rfl
theorem info88 : (Try.prog.info? 88).map (fun i => (i.zero, i.size, i.bytes)) = some (some (.slice none 0 0), 1, 24) := by kernel_rfl

set_option maxHeartbeats 400000 in
theorem newWork (w : World) :
    Calls Try.prog 26 #[] w fun e w' => e = .returned (.pointer (some ⟨w.heap.size + 1, 0, none⟩)) ∧ w' = (w.alloc (.map #[] 0)).alloc (.cells #[.string ByteArray.empty, .bool false, .map (some w.heap.size), .slice none 0 0] 76) := by
  have hmm := @run_makeMap Try.prog
  go_enter Try.func26, Try.ntmps26
  go_wp2
  go_ret
  exact ⟨rfl, rfl⟩

/-! ### cells of a block, one by one -/
def There (w : World) (g N : Nat) : Prop := ∀ t, t < N → (∃ v, w.cell? ⟨g, t, none⟩ = some v) ∧ w.frozen? ⟨g, t, none⟩ = false
theorem set_same {w : World} {g t : Nat} {u : Value} (v : Value) (h : w.cell? ⟨g, t, none⟩ = some u) : (w.setCell ⟨g, t, none⟩ v).cell? ⟨g, t, none⟩ = some v := World.cell?_setCell_same _ _ _ h
theorem set_other {w : World} {g t g' t' : Nat} (v : Value) (h : t ≠ t') : (w.setCell ⟨g, t, none⟩ v).cell? ⟨g', t', none⟩ = w.cell? ⟨g', t', none⟩ :=
  World.cell?_setCell_other _ _ _ _ (by simp only [ne_eq, Addr.mk.injEq]; omega)
theorem There.set {w : World} {g N : Nat} (h : There w g N) (t : Nat) (v : Value) : There (w.setCell ⟨g, t, none⟩ v) g N := by
  intro s hs
  obtain ⟨⟨u, hu⟩, hf⟩ := h s hs
  refine ⟨?_, by rw [World.frozen?_setCell]; exact hf⟩
  by_cases e : t = s
  · subst e; exact ⟨v, set_same v hu⟩
  · exact ⟨u, by rw [set_other v e]; exact hu⟩
theorem There.drew {w : World} {g N : Nat} (h : There w g N) : There w.drew g N := h
theorem made_there (w : World) (z : Array Value) (N t : Nat) : There (w.alloc (.cells (madeCells z N) t)) w.heap.size N := by
  intro s hs
  refine ⟨⟨(madeCells z N)[s]'(by rw [size_madeCells]; exact hs), ?_⟩, World.frozen?_alloc_new _ _ _ _⟩
  rw [World.cell?_alloc_new, Array.getElem?_eq_getElem]

/-- block g is a row under type t -/
def Tag (w : World) (g t : Nat) : Prop := ∃ cs, w.heap[g]? = some (.cells cs t (0, 0))
theorem Tag.set {w : World} {g t : Nat} (h : Tag w g t) (j : Nat) (v : Value) : Tag (w.setCell ⟨g, j, none⟩ v) g t := by
  obtain ⟨cs, h⟩ := h
  exact ⟨_, heap_setCell_same w g j cs t v h⟩
theorem Tag.drew {w : World} {g t : Nat} (h : Tag w g t) : Tag w.drew g t := h
theorem Tag.made (w : World) (cs : Array Value) (t : Nat) : Tag (w.alloc (.cells cs t)) w.heap.size t := ⟨cs, alloc_last _ _⟩
theorem Tag.later {w w' : World} {g t : Nat} (h : Tag w g t) (hb : Nx w w') : Tag w' g t := by
  obtain ⟨cs, h⟩ := h
  exact ⟨cs, by rw [Below.block hb g (lt_of_some h)]; exact h⟩

/-- the stored rows -/
def Rows3 (w : World) (g : Nat) (M Li H : List Int) (k : Nat) : Prop := ∀ i, i < k → w.cell? ⟨g, i * 3, none⟩ = some (.int .i32 (M.getD i 0)) ∧ w.cell? ⟨g, i * 3 + 1, none⟩ = some (.int .u32 (Li.getD i 0)) ∧ w.cell? ⟨g, i * 3 + 2, none⟩ = some (.int .i64 (H.getD i 0))
theorem Rows3.later {w w' : World} {g k : Nat} {M Li H : List Int} (h : Rows3 w g M Li H k) (hb : Nx w w') : Rows3 w' g M Li H k :=
  fun i hi => ⟨hb.cell (h i hi).1, hb.cell (h i hi).2.1, hb.cell (h i hi).2.2⟩
theorem Rows3.step {w : World} {g k N : Nat} {M Li H : List Int} (h : Rows3 w g M Li H k) (ht : There w g N) (hk : k * 3 + 2 < N) (x y z : Int) (hx : x = M.getD k 0) (hy : y = Li.getD k 0) (hz : z = H.getD k 0) :
    Rows3 (((w.setCell ⟨g, k * 3, none⟩ (.int .i32 x)).setCell ⟨g, k * 3 + 1, none⟩ (.int .u32 y)).setCell ⟨g, k * 3 + 2, none⟩ (.int .i64 z)) g M Li H (k + 1) := by
  subst hx hy hz
  obtain ⟨u0, h0⟩ := (ht (k * 3) (by omega)).1
  obtain ⟨u1, h1⟩ := (ht (k * 3 + 1) (by omega)).1
  obtain ⟨u2, h2⟩ := (ht (k * 3 + 2) (by omega)).1
  intro i hi
  by_cases e : i = k
  · subst e
    refine ⟨?_, ?_, ?_⟩
    · rw [set_other _ (by omega), set_other _ (by omega)]; exact set_same _ h0
    · rw [set_other _ (by omega)]; exact set_same _ (by rw [set_other _ (by omega)]; exact h1)
    · exact set_same _ (by rw [set_other _ (by omega), set_other _ (by omega)]; exact h2)
  · have := h i (by omega)
    refine ⟨?_, ?_, ?_⟩
    · rw [set_other _ (by omega), set_other _ (by omega), set_other _ (by omega)]; exact this.1
    · rw [set_other _ (by omega), set_other _ (by omega), set_other _ (by omega)]; exact this.2.1
    · rw [set_other _ (by omega), set_other _ (by omega), set_other _ (by omega)]; exact this.2.2

/-- the runs of a part -/
def Runs4 (w : World) (g : Nat) (Ms : List ByteArray) (E : List Int) (k : Nat) : Prop := ∀ i, i < k → w.cell? ⟨g, i * 4, none⟩ = some (.string (Ms.getD i ByteArray.empty)) ∧ w.cell? ⟨g, i * 4 + 1, none⟩ = some (.int .i64 0) ∧ w.cell? ⟨g, i * 4 + 2, none⟩ = some (.bool false) ∧ w.cell? ⟨g, i * 4 + 3, none⟩ = some (.int .i64 (E.getD i 0))
theorem Runs4.later {w w' : World} {g k : Nat} {Ms : List ByteArray} {E : List Int} (h : Runs4 w g Ms E k) (hb : Nx w w') : Runs4 w' g Ms E k :=
  fun i hi => ⟨hb.cell (h i hi).1, hb.cell (h i hi).2.1, hb.cell (h i hi).2.2.1, hb.cell (h i hi).2.2.2⟩
theorem Runs4.step {w : World} {g k N : Nat} {Ms : List ByteArray} {E : List Int} (h : Runs4 w g Ms E k) (ht : There w g N) (hk : k * 4 + 3 < N) (x : ByteArray) (y : Int) (hx : x = Ms.getD k ByteArray.empty) (hy : y = E.getD k 0) :
    Runs4 ((((w.setCell ⟨g, k * 4, none⟩ (.string x)).setCell ⟨g, k * 4 + 1, none⟩ (.int .i64 0)).setCell ⟨g, k * 4 + 2, none⟩ (.bool false)).setCell ⟨g, k * 4 + 3, none⟩ (.int .i64 y)) g Ms E (k + 1) := by
  subst hx hy
  obtain ⟨u0, h0⟩ := (ht (k * 4) (by omega)).1
  obtain ⟨u1, h1⟩ := (ht (k * 4 + 1) (by omega)).1
  obtain ⟨u2, h2⟩ := (ht (k * 4 + 2) (by omega)).1
  obtain ⟨u3, h3⟩ := (ht (k * 4 + 3) (by omega)).1
  intro i hi
  by_cases e : i = k
  · subst e
    refine ⟨?_, ?_, ?_, ?_⟩
    · rw [set_other _ (by omega), set_other _ (by omega), set_other _ (by omega)]; exact set_same _ h0
    · rw [set_other _ (by omega), set_other _ (by omega)]; exact set_same _ (by rw [set_other _ (by omega)]; exact h1)
    · rw [set_other _ (by omega)]; exact set_same _ (by rw [set_other _ (by omega), set_other _ (by omega)]; exact h2)
    · exact set_same _ (by rw [set_other _ (by omega), set_other _ (by omega), set_other _ (by omega)]; exact h3)
  · have := h i (by omega)
    refine ⟨?_, ?_, ?_, ?_⟩
    · rw [set_other _ (by omega), set_other _ (by omega), set_other _ (by omega), set_other _ (by omega)]; exact this.1
    · rw [set_other _ (by omega), set_other _ (by omega), set_other _ (by omega), set_other _ (by omega)]; exact this.2.1
    · rw [set_other _ (by omega), set_other _ (by omega), set_other _ (by omega), set_other _ (by omega)]; exact this.2.2.1
    · rw [set_other _ (by omega), set_other _ (by omega), set_other _ (by omega), set_other _ (by omega)]; exact this.2.2.2

/-- a part as ZZNewPart lays it: the rows at block gr, the rates as tv, the runs at block gu -/
structure PartAt (w : World) (p gr gu : Nat) (tv : Value) (M Li H R : List Int) (ratesNil : Bool) (Ms : List ByteArray) (E : List Int) : Prop where
  box : w.heap[p]? = some (.cells #[.pointer none, .slice (some ⟨gr, 0, none⟩) M.length M.length, tv, .slice (some ⟨gu, 0, none⟩) Ms.length Ms.length] 87 (0, 0))
  rows : Rows3 w gr M Li H M.length
  rates : (ratesNil = true ∧ tv = .slice none 0 0) ∨ (ratesNil = false ∧ ∃ gt, tv = .slice (some ⟨gt, 0, none⟩) M.length M.length ∧ Tag w gt 35 ∧ Cs (Value.int .i64) 0 w (some ⟨gt, 0, none⟩) R)
  runs : Runs4 w gu Ms E Ms.length
  tr : Tag w gr 80
  tu : Tag w gu 84

theorem later_block {w w' : World} {g : Nat} {o : Obj} (h : w.heap[g]? = some o) (hb : Nx w w') : w'.heap[g]? = some o := by
  rw [Below.block hb g (lt_of_some h)]; exact h
theorem PartAt.later {w w' : World} {p gr gu : Nat} {tv : Value} {M Li H R : List Int} {rn : Bool} {Ms : List ByteArray} {E : List Int} (h : PartAt w p gr gu tv M Li H R rn Ms E) (hb : Nx w w') : PartAt w' p gr gu tv M Li H R rn Ms E := by
  refine ⟨later_block h.box hb, h.rows.later hb, ?_, h.runs.later hb, h.tr.later hb, h.tu.later hb⟩
  rcases h.rates with h1 | ⟨h1, gt, h2, h4, h3⟩
  · exact .inl h1
  · exact .inr ⟨h1, gt, h2, h4.later hb, h3.later hb⟩

end Go.Proofs.Qxb6003633a
