import Derived.Test.Qxb6003633aWork2
import Derived.BigRegion
import Derived.Deep.DrawnRows
namespace Go.Proofs.Qxb6003633a
open Go.RowKit Go.Maps
set_option linter.unusedVariables false

theorem zv84 (w : World) : Sem.run Try.prog (zeroValue 84) w = .ok (.agg #[.string ByteArray.empty, .int .i64 0, .bool false, .int .i64 0]) w := by kernel_rfl
theorem zv90 (w : World) : Sem.run Try.prog (zeroValue 90) w = .ok (.agg #[.slice none 0 0, .slice none 0 0]) w := by kernel_rfl
theorem Nx.drew' (w : World) : Nx w w.drew := ⟨rfl, rfl, rfl, Nat.le_refl _, fun _ _ => rfl⟩
theorem box_cells {w : World} {g t : Nat} {cs : Array Value} (h : w.heap[g]? = some (.cells cs t (0, 0))) (j : Nat) : w.cell? ⟨g, j, none⟩ = cs[j]? := cell_of_row w g j cs t (0, 0) h

/-- 'append' at []span, closed to the walk -/
def AppN (ty : TypeId) (v x : Value) : Sem Next := do pure (.value (← Builtin.append_ #[88, 88] ty #[v, x]))
theorem exec_app (P : Program) (w : World) (ρ : Operand → Value) (dst : Option Tmp) (s x : Operand) (ty : TypeId) (pos : String) (after : Array Edge) (guard : Option (Nat × Bool)) : Sem.run P (execOp ρ { dst := dst, op := .call { callee := .builtin .append, args := #[s, x], argTypes := #[88, 88] }, type := ty, pos := pos, after := after, guard := guard }) w = Sem.run P (AppN ty (ρ s) (ρ x)) w := by
  simp [execOp, resolve, invoke, builtin, AppN]
theorem AppN_run {P : Program} {w w' : World} {ty : TypeId} {v x r : Value} (h : (Builtin.append_ #[88, 88] ty #[v, x]).run P w = .ok r w') : Sem.run P (AppN ty v x) w = .ok (.value r) w' := by
  simp [AppN, h]

theorem two_new (w : World) (a b : Value) (t : TypeId) : ∀ j u, [a, b][j]? = some u → (w.alloc (.cells #[a, b] t)).drew.cell? ((⟨w.heap.size, 0, none⟩ : Addr).add j) = some u := by
  intro j u hj
  show (w.alloc (.cells #[a, b] t)).cell? _ = _
  match j, hj with
  | 0, hj => simp at hj; subst hj; simp [Addr.add]
  | 1, hj => simp at hj; subst hj; simp [Addr.add]
  | j + 2, hj => simp at hj
theorem slices_one (a b : Option Addr) (n c n' c' : Nat) : ∀ u ∈ [Value.slice a n c, Value.slice b n' c'], u.oneCell' = true := by
  intro u hu
  simp at hu
  rcases hu with rfl | rfl <;> rfl

theorem MapIs.look_no_all {w : World} {bm : Nat} {names : List (List UInt8)} (h : MapIs w bm names) (s : ByteArray) (hs : s.size ≤ maxLen) (hm : names.contains s.data.toList = false) :
    ∃ c : Int, ∀ nq, (Instr.lookup 73 (.map (some bm)) (.string s) true).run Try.prog (w.drewN nq) = .ok (.tuple #[.int .i64 c, .bool false]) (w.drewN nq) := by
  obtain ⟨D, h1, h2⟩ := h
  have key : ∀ nq, ∃ c : Int, (Instr.lookup 73 (.map (some bm)) (.string s) true).run Try.prog (w.drewN nq) = .ok (.tuple #[.int .i64 c, .bool false]) (w.drewN nq) ∧ D.atKey (.string s.data.toList) (.lit (.int .i64 0)) = .lit (.int .i64 c) := by
    intro nq
    have h1' : (w.drewN nq).ownsMap Try.prog 9 (plainElem (H := Unit) Try.prog 3) bm names.length D := h1
    obtain ⟨v, ps, hrun, hv⟩ := h1'.look_ok law9 Try.underlying73 (zero3 _) (plainElem_int Try.underlying3 (by decide)) (WideMaps.keyOf_string_mk Try.underlying9 hs)
    obtain ⟨c, rfl, hc, _⟩ := plainElem_int_inv Try.underlying3 hv
    exact ⟨c, by rw [hrun, h2.has, hm], congrArg Prod.fst hc⟩
  obtain ⟨c0, _, e0⟩ := key 0
  refine ⟨c0, fun nq => ?_⟩
  obtain ⟨c, hr, e1⟩ := key nq
  rw [e0] at e1
  have : c = c0 := by simpa using e1.symm
  rw [hr, this]

theorem KFrame.cell {base : Nat} {w w' : World} (h : KFrame base w w') {g t j : Nat} {v : Value} (ht : Tag w g t) (h1 : t ≠ 76) (h2 : t ≠ 88) (h3 : t ≠ 90) (hc : w.cell? ⟨g, j, none⟩ = some v) : w'.cell? ⟨g, j, none⟩ = some v := by
  rw [World.cell?_of_block (w := w) (h.tag ht h1 h2 h3)]; exact hc
theorem KFrame.tag' {base : Nat} {w w' : World} (h : KFrame base w w') {g t : Nat} (ht : Tag w g t) (h1 : t ≠ 76) (h2 : t ≠ 88) (h3 : t ≠ 90) : Tag w' g t := by
  obtain ⟨cs, hc⟩ := ht
  exact ⟨cs, h.tags g cs t h1 h2 h3 hc⟩

theorem outer_box {w w1 : World} {W bm base : Nat} {sv : Value} {svs : List Value} {names : List (List UInt8)} {sp : Sp} {o : Obj} (h : WorkAt w W bm base sv svs names sp) (hg : (w.alloc o).grownBy w1 sv.ownBlock) :
    w1.heap[W]? = some (.cells #[.string ByteArray.empty, .bool false, .map (some bm), sv] 76 (0, 0)) := by
  have ha := h.later (Nx.alloc w o)
  rw [hg.block W (lt_of_some ha.box)]
  · exact ha.box
  · intro e
    obtain ⟨cs, hc, _⟩ := ownsRow_tag ha.outer e.symm
    rw [ha.box] at hc
    cases hc

/-! ### keep, on plain data -/
def stepK (st : List (List UInt8) × Sp) (b : List UInt8) (q : Value × Value) : List (List UInt8) × Sp :=
  if st.1.contains b then (st.1, st.2.set (placeOf st.1 b) (st.2.getD (placeOf st.1 b) [] ++ [q]))
  else (st.1 ++ [b], (st.2 ++ [[]]).set st.2.length ((st.2 ++ [[]]).getD st.2.length [] ++ [q]))
theorem stepK_old {st : List (List UInt8) × Sp} {b : List UInt8} (h : st.1.contains b = true) (q : Value × Value) : stepK st b q = (st.1, st.2.set (placeOf st.1 b) (st.2.getD (placeOf st.1 b) [] ++ [q])) := by
  unfold stepK; rw [if_pos h]
theorem stepK_new {st : List (List UInt8) × Sp} {b : List UInt8} (h : st.1.contains b = false) (q : Value × Value) : stepK st b q = (st.1 ++ [b], (st.2 ++ [[]]).set st.2.length ((st.2 ++ [[]]).getD st.2.length [] ++ [q])) := by
  unfold stepK; rw [if_neg (by rw [h]; simp)]

/-- within bounds -/
structure Bd (st : List (List UInt8) × Sp) (N : Nat) : Prop where
  same : st.1.length = st.2.length
  few : st.2.length ≤ N
  each : ∀ i, (st.2.getD i []).length ≤ N
theorem getD_set {α : Type} (l : List α) (m i : Nat) (x d : α) : (l.set m x).getD i d = if m = i ∧ i < l.length then x else l.getD i d := by
  by_cases h : m = i
  · subst h
    by_cases h2 : m < l.length
    · simp [List.getD, h2]
    · simp [List.getD, h2]
  · simp [List.getD, List.getElem?_set_ne h, h]
theorem Bd.step {st : List (List UInt8) × Sp} {N : Nat} (h : Bd st N) (b : List UInt8) (q : Value × Value) : Bd (stepK st b q) (N + 1) := by
  cases hc : st.1.contains b with
  | true =>
    rw [stepK_old hc]
    refine ⟨by simp [h.same], by have := h.few; simp; omega, fun i => ?_⟩
    show ((st.2.set _ _).getD i []).length ≤ N + 1
    rw [getD_set]
    split
    · have := h.each (placeOf st.1 b)
      simp at this ⊢; omega
    · have := h.each i; omega
  | false =>
    rw [stepK_new hc]
    refine ⟨by simp [h.same], by have := h.few; simp; omega, fun i => ?_⟩
    show (((st.2 ++ [[]]).set _ _).getD i []).length ≤ N + 1
    rw [getD_set]
    split
    · rw [getD_last _ _ _ _ rfl]; simp
    · by_cases hi : i < st.2.length
      · rw [getD_snoc _ _ _ _ hi]; have := h.each i; omega
      · have : (st.2 ++ [[]]).getD i [] = [] := by
          by_cases e : i = st.2.length
          · rw [getD_last _ _ _ _ e]
          · rw [List.getD, List.getElem?_eq_none (by simp; omega)]; rfl
        rw [this]; simp

def cutA (g size fr e : Nat) : Option Addr := if e = fr then some ⟨g, 0, none⟩ else some ⟨g, fr * size, none⟩
/-- the span that a run gives -/
def spanOf (gr : Nat) (rt : Option Nat) (fr e : Nat) : Value × Value :=
  (.slice (cutA gr 3 fr e) (e - fr) (e - fr), match rt with | none => .slice none 0 0 | some gt => .slice (cutA gt 1 fr e) (e - fr) (e - fr))
theorem spanOf_some (gr gt fr e : Nat) : spanOf gr (some gt) fr e = (.slice (cutA gr 3 fr e) (e - fr) (e - fr), .slice (cutA gt 1 fr e) (e - fr) (e - fr)) := rfl
theorem spanOf_none (gr fr e : Nat) : spanOf gr none fr e = (.slice (cutA gr 3 fr e) (e - fr) (e - fr), .slice none 0 0) := rfl
def endAt (E : List Int) (k : Nat) : Nat := (E.getD k 0).toNat
def fromAt (E : List Int) (k : Nat) : Nat := (prevE E k).toNat
/-- the state behind k runs -/
def stK (st : List (List UInt8) × Sp) (gr : Nat) (rt : Option Nat) (Ms : List ByteArray) (E : List Int) : Nat → List (List UInt8) × Sp
  | 0 => st
  | k + 1 => stepK (stK st gr rt Ms E k) (Ms.getD k ByteArray.empty).data.toList (spanOf gr rt (fromAt E k) (endAt E k))
theorem stK_succ (st : List (List UInt8) × Sp) (gr : Nat) (rt : Option Nat) (Ms : List ByteArray) (E : List Int) (k : Nat) : stK st gr rt Ms E (k + 1) = stepK (stK st gr rt Ms E k) (Ms.getD k ByteArray.empty).data.toList (spanOf gr rt (fromAt E k) (endAt E k)) := rfl
theorem stK_bd {st : List (List UInt8) × Sp} {N : Nat} (h : Bd st N) (gr : Nat) (rt : Option Nat) (Ms : List ByteArray) (E : List Int) : ∀ k, Bd (stK st gr rt Ms E k) (N + k)
  | 0 => h
  | k + 1 => (stK_bd h gr rt Ms E k).step _ _

theorem ends_nat {E : List Int} {n : Nat} (h : EndsOk E n E.length) (k : Nat) (hk : k < E.length) : E.getD k 0 = (endAt E k : Int) ∧ prevE E k = (fromAt E k : Int) ∧ fromAt E k ≤ endAt E k ∧ endAt E k ≤ n ∧ fromAt E (k + 1) = endAt E k := by
  have hp : ∀ j, j ≤ k → 0 ≤ prevE E j := by
    intro j
    induction j with
    | zero => intro _; simp [prevE]
    | succ j ih =>
      intro hj
      have := ih (by omega)
      have h2 := (h j (by omega)).1
      rw [prevE_succ]; omega
  have h1 := hp k (Nat.le_refl _)
  obtain ⟨h2, h3⟩ := h k hk
  unfold endAt fromAt
  rw [prevE_succ]
  exact ⟨by omega, by omega, by omega, by omega, rfl⟩
theorem from_zero (E : List Int) : fromAt E 0 = 0 := rfl

end Go.Proofs.Qxb6003633a
