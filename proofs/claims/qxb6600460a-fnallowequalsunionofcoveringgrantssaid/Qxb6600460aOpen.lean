import Derived.Test.Qxb6600460aBase
import Derived.Deep.Strs
namespace Go.Proofs.Qxb6600460a
open Go.RowKit Go.Deep
set_option linter.unusedVariables false

theorem spot_none {w : World} {a : Addr} {v : Value} (h : w.cell? a = some v) : a = ⟨a.block, a.off, none⟩ := by
  obtain ⟨g, off, spot⟩ := a
  have hs : spot = none := by
    unfold World.cell? at h
    split at h
    · cases spot with
      | none => rfl
      | some s => simp at h
    · cases h
  rw [hs]
theorem add_here (g off j : Nat) : (Addr.add ⟨g, off, none⟩ j) = ⟨g, off + j, none⟩ := by
  unfold Addr.add
  split
  · subst_vars; rfl
  · rfl
theorem add_zero' (a : Addr) : a.add 0 = a := by simp [Addr.add]

section
variable {H : Type} {enc : TypeId × Value → H} {w : World} {base : Nat} {held : Bool}

theorem cells9 : Try.prog.cellsOf 9 = 1 := by kernel_rfl
theorem cells22 : Try.prog.cellsOf 22 = 1 := by kernel_rfl
theorem cells34 : Try.prog.cellsOf 34 = 3 := by kernel_rfl

/-- a []string that came in -/
theorem ss_of {spare : Nat → Bool} {fuel : Nat} {ao : Option Addr} {len cap : Nat} {x : DataW H × List MemPlace} (h : DataW.trod enc Try.prog w base spare held fuel 22 [.slice ao len cap] = some x) :
    ∃ L : List ByteArray, L.length = len ∧ len ≤ maxLen ∧ Ss w ao L := by
  rcases open_strs Try.underlying22 Try.underlying9 cells9 h with ⟨hcs, _⟩ | ⟨a, l, c, m, Sx, hcs, _, hl, hm, hmm, _, hx⟩
  · simp at hcs
    obtain ⟨rfl, rfl, rfl⟩ := hcs
    exact ⟨[], rfl, Nat.zero_le _, fun j hj => absurd hj (by simp)⟩
  · simp at hcs
    obtain ⟨rfl, rfl, rfl⟩ := hcs
    refine ⟨(List.range len).map Sx, by simp, by omega, fun j hj => ?_⟩
    have hj' : j < len := by simpa using hj
    have hle : len ≤ m := by rw [hmm]; split <;> omega
    have h0 := (hx 0 (by omega)).1
    rw [add_zero'] at h0
    have ha := spot_none h0
    refine ⟨a.block, a.off, by rw [← ha], ?_⟩
    have h1 := (hx j (by omega)).1
    rw [ha, add_here] at h1
    rw [h1]
    simp [List.getD, hj']

/-- one grant that came in -/
theorem gr_of {spare : Nat → Bool} {fuel : Nat} {cs : List Value} {x : DataW H × List MemPlace} {g off : Nat} (hc : w.cells? base ⟨g, off, none⟩ 3 = some cs) (h : DataW.trod enc Try.prog w base spare held fuel 34 cs = some x) : ∃ y : Gr, GrAt w g off y := by
  obtain ⟨_, hlen, hcell⟩ := World.cells?_some hc
  obtain ⟨y0, y1, y2, n, _, _, h0, h1, h2⟩ := trod_struct3 Try.underlying34 h
  match cs, hlen with
  | [v0, v1, v2], _ =>
    simp only [cells9, cells22, List.drop_zero, List.drop_succ_cons, List.take_succ_cons, List.take_zero] at h0 h1 h2
    obtain ⟨s0, e0, _, _⟩ := DataW.trod_string Try.underlying9 h0
    obtain ⟨s1, e1, _, _⟩ := DataW.trod_string Try.underlying9 h1
    have c0 := hcell 0 (by omega)
    have c1 := hcell 1 (by omega)
    have c2 := hcell 2 (by omega)
    rw [add_here] at c0 c1 c2
    simp at e0 e1 c0 c1 c2
    subst e0 e1
    rcases open_strs Try.underlying22 Try.underlying9 cells9 h2 with ⟨hcs, _⟩ | ⟨a, l, c, m, Sx, hcs, _⟩
    · simp at hcs
      subst hcs
      exact ⟨⟨s0, s1, none, 0, []⟩, c0, c1, c2, fun j hj => absurd hj (by simp)⟩
    · simp at hcs
      subst hcs
      obtain ⟨L, hL, _, hS⟩ := ss_of h2
      subst hL
      exact ⟨⟨s0, s1, some a, c, L⟩, c0, c1, c2, hS⟩

/-- the grants that came in -/
theorem gs_of {spare : Nat → Bool} {fuel : Nat} {ao : Option Addr} {len cap : Nat} {x : DataW H × List MemPlace} (h : DataW.trod enc Try.prog w base spare held fuel 29 [.slice ao len cap] = some x) :
    ∃ G : List Gr, G.length = len ∧ len ≤ maxLen ∧ Gs w ao G := by
  rcases open_slice Try.underlying29 h with ⟨hcs, _⟩ | ⟨a, l, c, m, n, D, Pl, hcs, _, hl, hm, hmm, _, hx⟩
  · simp at hcs
    obtain ⟨rfl, rfl, rfl⟩ := hcs
    exact ⟨[], rfl, Nat.zero_le _, fun j hj => absurd hj (by simp)⟩
  · simp at hcs
    obtain ⟨rfl, rfl, rfl⟩ := hcs
    have hle : len ≤ m := by rw [hmm]; split <;> omega
    rw [cells34] at hx
    rcases Nat.eq_zero_or_pos len with rfl | hpos
    · exact ⟨[], rfl, Nat.zero_le _, fun j hj => absurd hj (by simp)⟩
    have ha : a = ⟨a.block, a.off, none⟩ := by
      obtain ⟨cs, h0, _⟩ := hx 0 (by omega)
      obtain ⟨_, hlen, hcell⟩ := World.cells?_some h0
      have c0 := hcell 0 (by omega)
      rw [add_add, add_zero'] at c0
      match cs, hlen with
      | [v0, v1, v2], _ => exact spot_none c0
    obtain ⟨F, hF⟩ := choose_lt (n := len) (p := fun i y => GrAt w a.block (a.off + i * 3) y) (fun i hi => by
      obtain ⟨cs, h0, h1⟩ := hx i (by omega)
      rw [ha, add_here] at h0
      exact gr_of h0 h1)
    refine ⟨(List.range len).map F, by simp, by omega, fun j hj => ?_⟩
    have hj' : j < len := by simpa using hj
    refine ⟨a.block, a.off, by rw [← ha], ?_⟩
    have e : ((List.range len).map F).getD j default = F j := by simp [List.getD, hj']
    rw [e]
    exact hF j hj'
end

end Go.Proofs.Qxb6600460a
