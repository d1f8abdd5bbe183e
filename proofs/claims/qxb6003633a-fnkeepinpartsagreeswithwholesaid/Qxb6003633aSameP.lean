import Derived.Test.Qxb6003633aJoin
namespace Go.Proofs.Qxb6003633a
open Go.RowKit Go.Maps
set_option linter.unusedVariables false

/-! ### two Works with spans that read alike -/
def RowsAt (w : World) (v : Value) (n : Nat) (X Y Z : Nat → Int) : Prop :=
  ∃ ao c, v = .slice ao n c ∧ ∀ j, j < n → ∃ g off, ao = some ⟨g, off, none⟩ ∧ w.cell? ⟨g, off + j * 3, none⟩ = some (.int .i32 (X j)) ∧ w.cell? ⟨g, off + j * 3 + 1, none⟩ = some (.int .u32 (Y j)) ∧ w.cell? ⟨g, off + j * 3 + 2, none⟩ = some (.int .i64 (Z j))
def RatesAt (w : World) (v : Value) (n : Nat) (R : Option (Nat → Int)) : Prop :=
  ∃ ro l c, v = .slice ro l c ∧ ro.isSome = R.isSome ∧ ∀ f, R = some f → l = n ∧ ∀ j, j < n → ∃ g off, ro = some ⟨g, off, none⟩ ∧ w.cell? ⟨g, off + j, none⟩ = some (.int .i64 (f j))
theorem RowsAt.later {w w' : World} {v : Value} {n : Nat} {X Y Z : Nat → Int} (h : RowsAt w v n X Y Z) (hb : Nx w w') : RowsAt w' v n X Y Z := by
  obtain ⟨ao, c, e, h⟩ := h
  refine ⟨ao, c, e, fun j hj => ?_⟩
  obtain ⟨g, off, e2, h1, h2, h3⟩ := h j hj
  exact ⟨g, off, e2, hb.cell h1, hb.cell h2, hb.cell h3⟩
theorem RatesAt.later {w w' : World} {v : Value} {n : Nat} {R : Option (Nat → Int)} (h : RatesAt w v n R) (hb : Nx w w') : RatesAt w' v n R := by
  obtain ⟨ro, l, c, e, h0, h⟩ := h
  refine ⟨ro, l, c, e, h0, fun f hf => ?_⟩
  obtain ⟨h1, h2⟩ := h f hf
  refine ⟨h1, fun j hj => ?_⟩
  obtain ⟨g, off, e2, h3⟩ := h2 j hj
  exact ⟨g, off, e2, hb.cell h3⟩
def Alike (w : World) (a b : Value × Value) : Prop := ∃ n X Y Z R, n ≤ 262144 ∧ RowsAt w a.1 n X Y Z ∧ RatesAt w a.2 n R ∧ RowsAt w b.1 n X Y Z ∧ RatesAt w b.2 n R
theorem Alike.later {w w' : World} {a b : Value × Value} (h : Alike w a b) (hb : Nx w w') : Alike w' a b := by
  obtain ⟨n, X, Y, Z, R, h0, h1, h2, h3, h4⟩ := h
  exact ⟨n, X, Y, Z, R, h0, h1.later hb, h2.later hb, h3.later hb, h4.later hb⟩

structure SpRel (R : Value × Value → Value × Value → Prop) (sp sp' : Sp) : Prop where
  len : sp.length = sp'.length
  runs : ∀ m, (sp.getD m []).length = (sp'.getD m []).length
  each : ∀ m k, k < (sp.getD m []).length → R ((sp.getD m []).getD k noSpan) ((sp'.getD m []).getD k noSpan)

theorem SpRel.mono {R S : Value × Value → Value × Value → Prop} {sp sp' : Sp} (h : SpRel R sp sp') (hm : ∀ a b, R a b → S a b) : SpRel S sp sp' :=
  ⟨h.len, h.runs, fun m k hk => hm _ _ (h.each m k hk)⟩
theorem SpRel.nil (R : Value × Value → Value × Value → Prop) : SpRel R [] [] := ⟨rfl, fun _ => rfl, fun m k hk => by simp at hk⟩
theorem getD_snoc_list (sp : Sp) (m : Nat) : (sp ++ [[]]).getD m [] = sp.getD m [] := by
  by_cases h : m < sp.length
  · rw [List.getD, List.getElem?_append_left h]; rfl
  · rw [List.getD, List.getElem?_append_right (by omega), List.getD, List.getElem?_eq_none (l := sp) (by omega)]
    by_cases h2 : m - sp.length = 0
    · rw [h2]; rfl
    · rw [List.getElem?_eq_none (by simp; omega)]
theorem SpRel.snoc {R : Value × Value → Value × Value → Prop} {sp sp' : Sp} (h : SpRel R sp sp') : SpRel R (sp ++ [[]]) (sp' ++ [[]]) := by
  refine ⟨by simp [h.len], fun m => ?_, fun m k hk => ?_⟩
  · rw [getD_snoc_list, getD_snoc_list]; exact h.runs m
  · rw [getD_snoc_list] at hk ⊢
    rw [getD_snoc_list]; exact h.each m k hk
theorem getD_last2 (l : List (Value × Value)) (x : Value × Value) {k : Nat} (h : k = l.length) : (l ++ [x]).getD k noSpan = x := by
  subst h; simp [List.getD]
theorem SpRel.set {R : Value × Value → Value × Value → Prop} {sp sp' : Sp} (h : SpRel R sp sp') {q q' : Value × Value} (hq : R q q') (p : Nat) :
    SpRel R (sp.set p (sp.getD p [] ++ [q])) (sp'.set p (sp'.getD p [] ++ [q'])) := by
  refine ⟨by simp [h.len], fun m => ?_, fun m k hk => ?_⟩
  · rw [getD_set, getD_set, ← h.len]
    split
    · rw [List.length_append, List.length_append, h.runs p]; rfl
    · exact h.runs m
  · rw [getD_set] at hk ⊢
    rw [getD_set, ← h.len]
    split at hk
    · rename_i hc
      rw [if_pos hc, if_pos hc]
      by_cases hk2 : k < (sp.getD p []).length
      · rw [getD_app hk2, getD_app (by rw [← h.runs]; exact hk2)]
        exact h.each p k hk2
      · have hke : k = (sp.getD p []).length := by simp at hk hk2 ⊢; omega
        rw [getD_last2 _ _ hke, getD_last2 _ _ (by rw [hke]; exact h.runs p)]
        exact hq
    · rename_i hc
      rw [if_neg hc, if_neg hc]
      exact h.each m k hk
theorem step_rel {R : Value × Value → Value × Value → Prop} {st st' : List (List UInt8) × Sp} (hn : st.1 = st'.1) (h : SpRel R st.2 st'.2) {q q' : Value × Value} (hq : R q q') (b : List UInt8) :
    (stepK st b q).1 = (stepK st' b q').1 ∧ SpRel R (stepK st b q).2 (stepK st' b q').2 := by
  cases hc : st.1.contains b with
  | true =>
    have hc' : st'.1.contains b = true := by rw [← hn]; exact hc
    rw [stepK_old hc, stepK_old hc']
    refine ⟨hn, ?_⟩
    rw [← hn]
    exact h.set hq _
  | false =>
    have hc' : st'.1.contains b = false := by rw [← hn]; exact hc
    rw [stepK_new hc, stepK_new hc']
    refine ⟨by rw [hn], ?_⟩
    have := h.snoc.set hq st.2.length
    rw [h.len] at this
    rw [h.len]
    exact this
theorem stG_rel {R : Value × Value → Value × Value → Prop} {st st' : List (List UInt8) × Sp} (hn : st.1 = st'.1) (h : SpRel R st.2 st'.2) {q q' : Nat → Value × Value} (bs : Nat → List UInt8) :
    ∀ k, (∀ i, i < k → R (q i) (q' i)) → (stG st bs q k).1 = (stG st' bs q' k).1 ∧ SpRel R (stG st bs q k).2 (stG st' bs q' k).2
  | 0, _ => ⟨hn, h⟩
  | k + 1, hq => by
    obtain ⟨h1, h2⟩ := stG_rel hn h bs k (fun i hi => hq i (by omega))
    exact step_rel h1 h2 (hq k (by omega)) _
theorem stG_add (st : List (List UInt8) × Sp) (bs : Nat → List UInt8) (q : Nat → Value × Value) (a : Nat) : ∀ b, stG (stG st bs q a) (fun i => bs (a + i)) (fun i => q (a + i)) b = stG st bs q (a + b)
  | 0 => rfl
  | b + 1 => by
    show stepK (stG (stG st bs q a) _ _ b) _ _ = _
    rw [stG_add st bs q a b]; rfl
theorem stG_congr {st : List (List UInt8) × Sp} {bs bs' : Nat → List UInt8} {q q' : Nat → Value × Value} : ∀ k, (∀ i, i < k → bs i = bs' i ∧ q i = q' i) → stG st bs q k = stG st bs' q' k
  | 0, _ => rfl
  | k + 1, h => by
    show stepK (stG st bs q k) _ _ = stepK (stG st bs' q' k) _ _
    rw [stG_congr k (fun i hi => h i (by omega)), (h k (by omega)).1, (h k (by omega)).2]

end Go.Proofs.Qxb6003633a
