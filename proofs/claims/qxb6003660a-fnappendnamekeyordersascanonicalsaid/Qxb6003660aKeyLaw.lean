import Derived.Test.Qxb6003660aKeyPlain
namespace Go.Proofs.Qxb6003660a

/-! ### the key as a function of the lowered labels -/
def kb (x : Int) : List Int := if x = 0 then [0, 255] else [x]
def kbs : List Int → List Int
  | [] => []
  | x :: r => kb x ++ kbs r
/-- labels, from the root outwards -/
def kk : List (List Int) → List Int
  | [] => []
  | l :: r => kbs l ++ (0 :: 1 :: kk r)

theorem lowU_zero (c : UInt8) : lowU c = 0 ↔ c.toNat = 0 := by
  unfold lowU lowI
  split <;> omega
theorem keyB_kb (c : UInt8) : keyB c = kb (lowU c) := by
  unfold keyB kb
  by_cases h : c.toNat = 0
  · rw [if_pos h, if_pos ((lowU_zero c).2 h)]
  · rw [if_neg h, if_neg (fun e => h ((lowU_zero c).1 e))]
theorem keyBs_kbs (l : List UInt8) : keyBs l = kbs (l.map lowU) := by
  induction l with
  | nil => rfl
  | cons c r ih => simp [keyBs, kbs, keyB_kb, ih]
theorem kk_append (a b : List (List Int)) : kk (a ++ b) = kk a ++ kk b := by
  induction a with
  | nil => rfl
  | cons l r ih => simp [kk, ih]
theorem keyLs_kk (ls : List (List UInt8)) : keyLs ls = kk (lw ls).reverse := by
  induction ls with
  | nil => rfl
  | cons l ls ih =>
    have e : lw (l :: ls) = l.map lowU :: lw ls := rfl
    rw [e, List.reverse_cons, kk_append, ← ih]
    simp [keyLs, keyL, kk, keyBs_kbs]
theorem key_kk (ls : List (List UInt8)) : key ls = kk (lw ls).reverse ++ [0, 0] := by
  unfold key
  rw [keyLs_kk]

/-! ### a key begins another only where its labels do -/
theorem kb_zero : kb 0 = [0, 255] := rfl
theorem kb_pos {x : Int} (h : x ≠ 0) : kb x = [x] := by unfold kb; rw [if_neg h]

theorem kbs_begins : ∀ (l m X Y : List Int), kbs l ++ (0 :: 1 :: X) <+: kbs m ++ (0 :: 1 :: Y) → l = m ∧ X <+: Y
  | [], [], X, Y, h => by
    simp only [kbs, List.nil_append, List.cons_prefix_cons, true_and] at h
    exact ⟨rfl, h⟩
  | [], y :: m, X, Y, h => by
    by_cases hy : y = 0
    · subst hy
      simp [kbs, kb_zero, List.cons_prefix_cons] at h
    · simp [kbs, kb_pos hy, List.cons_prefix_cons] at h
      exact absurd h.1.symm hy
  | x :: l, [], X, Y, h => by
    by_cases hx : x = 0
    · subst hx
      simp [kbs, kb_zero, List.cons_prefix_cons] at h
    · simp [kbs, kb_pos hx, List.cons_prefix_cons] at h
      exact absurd h.1 hx
  | x :: l, y :: m, X, Y, h => by
    by_cases hx : x = 0
    · by_cases hy : y = 0
      · subst hx hy
        simp only [kbs, kb_zero, List.cons_append, List.nil_append, List.cons_prefix_cons, true_and] at h
        obtain ⟨e1, e2⟩ := kbs_begins l m X Y h
        exact ⟨by rw [e1], e2⟩
      · subst hx
        simp [kbs, kb_zero, kb_pos hy, List.cons_prefix_cons] at h
        exact absurd h.1.symm hy
    · by_cases hy : y = 0
      · subst hy
        simp [kbs, kb_zero, kb_pos hx, List.cons_prefix_cons] at h
        exact absurd h.1 hx
      · simp only [kbs, kb_pos hx, kb_pos hy, List.cons_append, List.nil_append, List.cons_prefix_cons] at h
        obtain ⟨e1, e2⟩ := kbs_begins l m X Y h.2
        exact ⟨by rw [e1, h.1], e2⟩
theorem kbs_end (l X : List Int) (h : kbs l ++ (0 :: 1 :: X) <+: [0, 0]) : False := by
  cases l with
  | nil => simp [kbs, List.cons_prefix_cons] at h
  | cons x l =>
    by_cases hx : x = 0
    · subst hx
      simp [kbs, kb_zero, List.cons_prefix_cons] at h
    · simp [kbs, kb_pos hx, List.cons_prefix_cons] at h
      exact hx h.1
theorem kk_begins : ∀ (A B : List (List Int)), kk A <+: kk B ++ [0, 0] → A <+: B
  | [], B, _ => List.nil_prefix
  | l :: A, [], h => by
    simp only [kk, List.nil_append] at h
    exact absurd h (fun h => kbs_end _ _ h)
  | l :: A, m :: B, h => by
    simp only [kk, List.append_assoc, List.cons_append] at h
    obtain ⟨e1, e2⟩ := kbs_begins l m _ _ h
    rw [e1, List.cons_prefix_cons]
    exact ⟨rfl, kk_begins A B e2⟩

/-! ### THE PLAIN LAW of FnInZoneAgreesWithNameKeyPrefix -/
theorem zone_key (ls ms : List (List UInt8)) (gl : Good ls) (gm : Good ms) (f : Nat) (hf : (nm ls).length ≤ f) : inZ f (nm ls) (nm ms) = (keyLs ms).isPrefixOf (key ls) := by
  rw [Bool.eq_iff_iff, inZ_spec ls ms f gl gm hf, List.isPrefixOf_iff_prefix, keyLs_kk, key_kk]
  constructor
  · rintro ⟨ps, qs, rfl, h⟩
    have e : lw (ps ++ qs) = lw ps ++ lw qs := by simp [lw]
    rw [e, List.reverse_append, kk_append, h]
    exact ⟨kk (lw ps).reverse ++ [0, 0], by simp⟩
  · intro h
    obtain ⟨t, ht⟩ := kk_begins _ _ h
    have e := congrArg List.reverse ht
    rw [List.reverse_append, List.reverse_reverse, List.reverse_reverse] at e
    refine ⟨ls.take t.length, ls.drop t.length, (List.take_append_drop _ _).symm, ?_⟩
    have e2 : lw (ls.drop t.length) = (lw ls).drop t.length := by simp [lw, List.map_drop]
    rw [e2, ← e]
    rw [List.drop_left' (by simp)]

end Go.Proofs.Qxb6003660a
