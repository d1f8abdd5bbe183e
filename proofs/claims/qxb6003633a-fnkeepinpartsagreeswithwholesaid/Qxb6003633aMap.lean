import Derived.Test.Qxb6003633aPart
namespace Go.Proofs.Qxb6003633a
open Go.RowKit Go.Maps Go.WideMaps
set_option linter.unusedVariables false

theorem law9 : Keyed Try.prog 9 := string_keyed Try.underlying9
theorem zero3 (w : World) : (zeroValue 3).run Try.prog w = .ok (.int .i64 0) w := by kernel_rfl

/-- the datum D holds just the names, each with its place -/
structure Reps (D : DataW Unit) (names : List (List UInt8)) : Prop where
  has : ∀ b, Maps.has D (.string b) = names.contains b
  at' : ∀ (i : Nat) (b : List UInt8), names[i]? = some b → D.atKey (.string b) (.lit (.int .i64 0)) = .lit (.int .i64 (i : Int))
  size : Maps.size D = names.length
  nodup : names.Nodup

/-- block bm is a map from the names to their places -/
def MapIs (w : World) (bm : Nat) (names : List (List UInt8)) : Prop := ∃ D, w.ownsMap Try.prog 9 (plainElem (H := Unit) Try.prog 3) bm names.length D ∧ Reps D names

theorem MapIs.made (w : World) : MapIs (w.alloc (.map #[] 0)) w.heap.size [] :=
  ⟨_, World.ownsMap_made _ _ _ _, ⟨fun b => rfl, fun i b h => by simp at h, rfl, List.nodup_nil⟩⟩
theorem MapIs.kept {w w' : World} {bm : Nat} {names : List (List UInt8)} {row : Option Nat} (h : MapIs w bm names) (hg : w.grownBy w' row) (hne : some bm ≠ row) : MapIs w' bm names := by
  obtain ⟨D, h1, h2⟩ := h
  exact ⟨D, h1.kept hg hne, h2⟩
theorem MapIs.of_block {w w' : World} {bm : Nat} {names : List (List UInt8)} (h : MapIs w bm names) (hb : w'.heap[bm]? = w.heap[bm]?) : MapIs w' bm names := by
  obtain ⟨D, ⟨es, clock, h1, r⟩, h2⟩ := h
  exact ⟨D, ⟨es, clock, by rw [hb]; exact h1, r⟩, h2⟩
theorem MapIs.isMap {w : World} {bm : Nat} {names : List (List UInt8)} (h : MapIs w bm names) : ∃ es clock, w.heap[bm]? = some (.map es clock) := by
  obtain ⟨D, ⟨es, clock, h1, _⟩, _⟩ := h
  exact ⟨es, clock, h1⟩

/-- where a name is found -/
def placeOf (names : List (List UInt8)) (b : List UInt8) : Nat := names.idxOf b

theorem MapIs.len {w : World} {bm : Nat} {names : List (List UInt8)} (h : MapIs w bm names) (ty : TypeId) : (Builtin.len_ #[73] ty #[.map (some bm)]).run Try.prog w = .ok (.int .i64 (names.length : Int)) w := by
  obtain ⟨D, h1, h2⟩ := h
  rw [h1.len Try.underlying73, h2.size]
theorem MapIs.look_yes {w : World} {bm : Nat} {names : List (List UInt8)} (h : MapIs w bm names) (s : ByteArray) (hs : s.size ≤ maxLen) (hm : names.contains s.data.toList = true) :
    (Instr.lookup 73 (.map (some bm)) (.string s) true).run Try.prog w = .ok (.tuple #[.int .i64 (placeOf names s.data.toList : Int), .bool true]) w := by
  obtain ⟨D, h1, h2⟩ := h
  obtain ⟨v, ps, hrun, hv⟩ := h1.look_ok law9 Try.underlying73 (zero3 w) (plainElem_int Try.underlying3 (by decide)) (keyOf_string_mk Try.underlying9 hs)
  obtain ⟨c, rfl, hc, _⟩ := plainElem_int_inv Try.underlying3 hv
  rw [hrun, h2.has, hm]
  have hmem : s.data.toList ∈ names := by simpa using hm
  have hi : names[placeOf names s.data.toList]? = some s.data.toList := by
    have hlt := List.idxOf_lt_length_of_mem hmem
    unfold placeOf
    rw [List.getElem?_eq_getElem hlt]
    exact congrArg some (List.getElem_idxOf hlt)
  have := h2.at' _ _ hi
  have h3 := congrArg Prod.fst hc
  rw [this] at h3
  simp at h3
  rw [h3]
theorem MapIs.look_no {w : World} {bm : Nat} {names : List (List UInt8)} (h : MapIs w bm names) (s : ByteArray) (hs : s.size ≤ maxLen) (hm : names.contains s.data.toList = false) :
    ∃ c : Int, (Instr.lookup 73 (.map (some bm)) (.string s) true).run Try.prog w = .ok (.tuple #[.int .i64 c, .bool false]) w := by
  obtain ⟨D, h1, h2⟩ := h
  obtain ⟨v, ps, hrun, hv⟩ := h1.look_ok law9 Try.underlying73 (zero3 w) (plainElem_int Try.underlying3 (by decide)) (keyOf_string_mk Try.underlying9 hs)
  obtain ⟨c, rfl, hc, _⟩ := plainElem_int_inv Try.underlying3 hv
  exact ⟨c, by rw [hrun, h2.has, hm]⟩
theorem MapIs.put {w : World} {bm : Nat} {names : List (List UInt8)} (h : MapIs w bm names) (s : ByteArray) (hs : s.size ≤ maxLen) (hm : names.contains s.data.toList = false) (hn : names.length ≤ 1048576) :
    ∃ w', (Instr.mapUpdate 73 (.map (some bm)) (.string s) (.int .i64 (names.length : Int))).run Try.prog w = .ok () w' ∧ MapIs w' bm (names ++ [s.data.toList]) ∧ w.grownBy w' (some bm) := by
  obtain ⟨D, h1, h2⟩ := h
  have hwf : (Lit.int .i64 (names.length : Int)).wf = true := WalkArith.wf_i64 (by omega)
  obtain ⟨w', hrun, h3, h4⟩ := h1.store law9 Try.underlying73 (by unfold maxLen; omega) (keyOf_string_mk Try.underlying9 hs) (plainElem_int Try.underlying3 hwf)
  refine ⟨w', hrun, ⟨_, by rw [List.length_append]; exact h3, ?_⟩, h4.grown⟩
  have hmem : s.data.toList ∉ names := by simpa using hm
  refine ⟨fun b => ?_, fun i b hi => ?_, ?_, ?_⟩
  · by_cases e : b = s.data.toList
    · subst e
      rw [has_put_same h1.isMap (k := .string s.data.toList) trivial]; simp
    · rw [has_put_other (by simpa using e), h2.has]
      simp [e]
  · by_cases e : i < names.length
    · rw [List.getElem?_append_left e] at hi
      have hb : b ∈ names := List.mem_of_getElem? hi
      rw [atKey_put_other (by intro h; simp at h; subst h; exact hmem hb)]
      exact h2.at' i b hi
    · rw [List.getElem?_append_right (by omega)] at hi
      have h5 : i - names.length = 0 := by
        have := (List.getElem?_eq_some_iff.1 hi).1
        simp at this; omega
      rw [h5] at hi
      simp at hi
      subst hi
      rw [atKey_put_same h1.isMap (k := .string s.data.toList) trivial]
      have : i = names.length := by omega
      rw [this]
  · rw [size_put (h1.tidy law9), h2.has, hm, h2.size]; simp
  · rw [List.nodup_append]
    refine ⟨h2.nodup, by simp, fun a ha b hb => ?_⟩
    simp at hb
    subst hb
    intro e; subst e; exact hmem ha

end Go.Proofs.Qxb6003633a
