import Derived.Test.Qxb6600460aBase
import Derived.Deep.RegionHeld3
namespace Go.Proofs.Qxb6600460a
open Go.RowKit
set_option linter.unusedVariables false

theorem info26 : (Try.prog.info? 26).map (fun i => (i.zero, i.size, i.bytes)) = some (some (.agg #[.string ByteArray.empty, .string ByteArray.empty, .slice none 0 0]), 3, 56) := by kernel_rfl

/-! ### cells of a block, one by one -/
def There (w : World) (g N : Nat) : Prop := ∀ t, t < N → (∃ v, w.cell? ⟨g, t, none⟩ = some v) ∧ w.frozen? ⟨g, t, none⟩ = false
theorem set_same {w : World} {g t : Nat} {u : Value} (v : Value) (h : w.cell? ⟨g, t, none⟩ = some u) : (w.setCell ⟨g, t, none⟩ v).cell? ⟨g, t, none⟩ = some v := World.cell?_setCell_same _ _ _ h
theorem set_other {w : World} {g t g' t' : Nat} (v : Value) (h : t ≠ t') : (w.setCell ⟨g, t, none⟩ v).cell? ⟨g', t', none⟩ = w.cell? ⟨g', t', none⟩ :=
  World.cell?_setCell_other _ _ _ _ (by simp only [ne_eq, Addr.mk.injEq]; omega)
theorem There.set {w : World} {g N : Nat} (h : There w g N) (t : Nat) (v : Value) : There (w.setCell ⟨g, t, none⟩ v) g N := by
  intro s hs
  obtain ⟨⟨u, hu⟩, hf⟩ := h s hs
  refine ⟨?_, by rw [World.frozen?_setCell]; exact hf⟩
  by_cases e : t = s
  · subst e; exact ⟨v, set_same v hu⟩
  · exact ⟨u, by rw [set_other v e]; exact hu⟩
theorem There.drew {w : World} {g N : Nat} (h : There w g N) : There w.drew g N := h
theorem made_there (w : World) (z : Array Value) (N t : Nat) : There (w.alloc (.cells (madeCells z N) t)) w.heap.size N := by
  intro s hs
  refine ⟨⟨(madeCells z N)[s]'(by rw [size_madeCells]; exact hs), ?_⟩, World.frozen?_alloc_new _ _ _ _⟩
  rw [World.cell?_alloc_new, Array.getElem?_eq_getElem]

/-- the grants that are laid so far -/
def G3 (w : World) (g : Nat) (G : List Gr) (k : Nat) : Prop := ∀ i, i < k → w.cell? ⟨g, i * 3, none⟩ = some (.string (G.getD i default).ty) ∧ w.cell? ⟨g, i * 3 + 1, none⟩ = some (.string (G.getD i default).nm) ∧ w.cell? ⟨g, i * 3 + 2, none⟩ = some (.slice (G.getD i default).ao (G.getD i default).acts.length (G.getD i default).cap)
theorem G3.step {w : World} {g k N : Nat} {G : List Gr} (h : G3 w g G k) (ht : There w g N) (hk : k * 3 + 2 < N) (x : Gr) (hx : x = G.getD k default) :
    G3 (((w.setCell ⟨g, k * 3, none⟩ (.string x.ty)).setCell ⟨g, k * 3 + 1, none⟩ (.string x.nm)).setCell ⟨g, k * 3 + 2, none⟩ (.slice x.ao x.acts.length x.cap)) g G (k + 1) := by
  subst hx
  obtain ⟨u0, h0⟩ := (ht (k * 3) (by omega)).1
  obtain ⟨u1, h1⟩ := (ht (k * 3 + 1) (by omega)).1
  obtain ⟨u2, h2⟩ := (ht (k * 3 + 2) (by omega)).1
  intro i hi
  by_cases e : i = k
  · subst e
    refine ⟨?_, ?_, ?_⟩
    · rw [set_other _ (by omega), set_other _ (by omega)]; exact set_same _ h0
    · rw [set_other _ (by omega)]; exact set_same _ (by rw [set_other _ (by omega)]; exact h1)
    · exact set_same _ (by rw [set_other _ (by omega), set_other _ (by omega)]; exact h2)
  · have := h i (by omega)
    refine ⟨?_, ?_, ?_⟩
    · rw [set_other _ (by omega), set_other _ (by omega), set_other _ (by omega)]; exact this.1
    · rw [set_other _ (by omega), set_other _ (by omega), set_other _ (by omega)]; exact this.2.1
    · rw [set_other _ (by omega), set_other _ (by omega), set_other _ (by omega)]; exact this.2.2

set_option maxHeartbeats 2000000 in
theorem to16 (ao : Option Addr) (G : List Gr) (cap : Nat) (w : World) (h : Gs w ao G) (hG : G.length ≤ 1048576) :
    Calls Try.prog 16 #[.slice ao G.length cap] w fun e w' => (∃ g, e = .returned (.slice (some ⟨g, 0, none⟩) G.length G.length) ∧ Hid (Gs w' (some ⟨g, 0, none⟩) G)) ∧ Hid (Nx w w') := by
  have hmk : (Instr.makeSlice 37 (.int .i64 (G.length : Int)) (.int .i64 (G.length : Int))).run Try.prog w = .ok (.slice (some ⟨w.heap.size, 0, none⟩) G.length G.length) (w.alloc (.cells (madeCells #[.string ByteArray.empty, .string ByteArray.empty, .slice none 0 0] (G.length * 3)) 26)) := by
    obtain ⟨i0, hi, hz0, hz1, hz2⟩ := info_parts info26
    have := run_make (P := Try.prog) w 37 26 i0 _ Try.underlying37 hi hz0 .i64 .i64 (G.length : Int) (G.length : Int) (by omega) (by omega) (by rw [hz2]; omega) (by omega)
    rw [hz1] at this
    simp only [Int.toNat_natCast] at this
    exact this
  have HC := hid h
  clear h
  go_enter Try.func16, Try.ntmps16
  go_wp2
  clear hmk
  go_loopw [4] (fun i wr => ∃ k : Nat, k ≤ G.length ∧ i = .int .i64 k ∧ Hid (G3 wr w.heap.size G k) ∧ Hid (There wr w.heap.size (G.length * 3)) ∧ Below w.heap.size w wr) (fun i _ => G.length - (intOf i).toNat)
  case atStart => exact ⟨0, by omega, rfl, fun i hi => by omega, made_there _ _ _ _, (Below.refl _ _).alloc (Nat.le_refl _) _⟩
  case round =>
    obtain ⟨j, hj, rfl, HR, HT, hb⟩ := hrel
    by_cases h1 : j < G.length
    · have hj0 : (0 : Int) ≤ (j : Int) := by omega
      have hj1 : (j : Int) < (G.length : Int) := by omega
      obtain ⟨g0, o0, hx0, hc0, hc1, hc2, _⟩ := HC.out j h1
      have C0 := (hb.cell (cell_lt hc0)).trans hc0
      have C1 := (hb.cell (cell_lt hc1)).trans hc1
      have C2 := (hb.cell (cell_lt hc2)).trans hc2
      have N0 : ¬ w.heap.size = g0 := by have := cell_lt hc0; simp at this; omega
      clear hc0 hc1 hc2
      subst hx0
      obtain ⟨x, hx⟩ : ∃ x, x = G.getD j default := ⟨_, rfl⟩
      rw [← hx] at C0 C1 C2
      have HX := hid hx
      clear hx
      obtain ⟨xt, xn, xo, c, L⟩ := x
      simp only at C0 C1 C2
      obtain ⟨⟨x0, D0⟩, Z0⟩ := HT.out (j * 3) (by omega)
      obtain ⟨⟨x1, D1⟩, Z1⟩ := HT.out (j * 3 + 1) (by omega)
      obtain ⟨⟨x2, D2⟩, Z2⟩ := HT.out (j * 3 + 2) (by omega)
      go_wp2
      go_region_held3 (fun w' => w'.cell? ⟨g0, o0 + j * 3, none⟩ = some (.string xt) ∧ w'.cell? ⟨g0, o0 + j * 3 + 1, none⟩ = some (.string xn) ∧ w'.cell? ⟨g0, o0 + j * 3 + 2, none⟩ = some (.slice xo L.length c)) (go_keep) (fail)
      go_wp2
      go_roundw
      case rel => exact ⟨j + 1, by omega, by go_num, HR.out.step HT.out (by omega) ⟨xt, xn, xo, c, L⟩ HX.out, ((HT.out.set _ _).set _ _).set _ _, (((hb.setCell (Nat.le_refl _) _).setCell (Nat.le_refl _) _).setCell (Nat.le_refl _) _).drew⟩
      case measure => simp [intOf]; omega
    · obtain rfl : j = G.length := by omega
      go_wp2
      go_ret
      refine ⟨⟨w.heap.size, rfl, ?_⟩, hb⟩
      intro j hj
      obtain ⟨r0, r1, r2⟩ := HR.out j hj
      obtain ⟨_, _, _, _, _, _, r3⟩ := HC.out j hj
      refine ⟨_, _, rfl, ?_⟩
      rw [Nat.zero_add]
      exact ⟨r0, r1, r2, r3.later hb⟩

end Go.Proofs.Qxb6600460a
