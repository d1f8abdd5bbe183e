import Derived.Test.Qxb6003660aKeyLaw
namespace Go.Proofs.Qxb6003660a

/-- octet by octet -/
def cmpI : List Int → List Int → Int
  | [], [] => 0
  | [], _ :: _ => -1
  | _ :: _, [] => 1
  | x :: a, y :: b => if x < y then -1 else if y < x then 1 else cmpI a b

theorem cmpI_self (a : List Int) : cmpI a a = 0 := by
  induction a with
  | nil => rfl
  | cons x a ih => simp [cmpI, ih]
theorem cmpI_eq : ∀ (a b : List Int), cmpI a b = 0 → a = b
  | [], [], _ => rfl
  | [], _ :: _, h => by simp [cmpI] at h
  | _ :: _, [], h => by simp [cmpI] at h
  | x :: a, y :: b, h => by
    unfold cmpI at h
    by_cases h1 : x < y
    · rw [if_pos h1] at h; simp at h
    · rw [if_neg h1] at h
      by_cases h2 : y < x
      · rw [if_pos h2] at h; simp at h
      · rw [if_neg h2] at h
        rw [cmpI_eq a b h, show x = y by omega]
/-- what lies ahead is the same -/
theorem cmpI_skip (p a b : List Int) : cmpI (p ++ a) (p ++ b) = cmpI a b := by
  induction p with
  | nil => rfl
  | cons x p ih => simp [cmpI, ih]
theorem cmpI_lt (p a b : List Int) (x y : Int) (h : x < y) : cmpI (p ++ x :: a) (p ++ y :: b) = -1 := by
  rw [cmpI_skip]; simp [cmpI, h]
theorem cmpI_gt (p a b : List Int) (x y : Int) (h : y < x) : cmpI (p ++ x :: a) (p ++ y :: b) = 1 := by
  rw [cmpI_skip]; unfold cmpI; rw [if_neg (by omega), if_pos h]

/-- the canonical order, labels from the root outwards -/
def canonC : List (List Int) → List (List Int) → Int
  | [], [] => 0
  | [], _ :: _ => -1
  | _ :: _, [] => 1
  | l :: a, m :: b => if cmpI l m ≠ 0 then cmpI l m else canonC a b

theorem canonC_eq : ∀ (a b : List (List Int)), canonC a b = 0 → a = b
  | [], [], _ => rfl
  | [], _ :: _, h => by simp [canonC] at h
  | _ :: _, [], h => by simp [canonC] at h
  | l :: a, m :: b, h => by
    unfold canonC at h
    by_cases h1 : cmpI l m = 0
    · rw [if_neg (by simpa using h1)] at h
      rw [canonC_eq a b h, cmpI_eq l m h1]
    · rw [if_pos h1] at h
      exact absurd h h1
theorem canonC_skip (p a b : List (List Int)) : canonC (p ++ a) (p ++ b) = canonC a b := by
  induction p with
  | nil => rfl
  | cons x p ih => simp [canonC, cmpI_self, ih]

def Nn (l : List Int) : Prop := ∀ x ∈ l, 0 ≤ x

/-- two labels that part: the keys part alike -/
theorem kbs_cmp : ∀ (l m X Y : List Int), Nn l → Nn m → cmpI l m ≠ 0 → cmpI (kbs l ++ (0 :: 1 :: X)) (kbs m ++ (0 :: 1 :: Y)) = cmpI l m
  | [], [], X, Y, _, _, h => by simp [cmpI] at h
  | [], y :: m, X, Y, _, hm, _ => by
    have hy0 := hm y (List.mem_cons_self ..)
    by_cases hy : y = 0
    · subst hy
      simp [kbs, kb_zero, cmpI]
    · have : 0 < y := by omega
      simp [kbs, kb_pos hy, cmpI, this]
  | x :: l, [], X, Y, hl, _, _ => by
    have hx0 := hl x (List.mem_cons_self ..)
    by_cases hx : x = 0
    · subst hx
      simp [kbs, kb_zero, cmpI]
    · have h1 : 0 < x := by omega
      have h2 : ¬ x < 0 := by omega
      simp [kbs, kb_pos hx, cmpI, h1, h2]
  | x :: l, y :: m, X, Y, hl, hm, h => by
    have hx0 := hl x (List.mem_cons_self ..)
    have hy0 := hm y (List.mem_cons_self ..)
    have ih := kbs_cmp l m X Y (fun z hz => hl z (List.mem_cons_of_mem _ hz)) (fun z hz => hm z (List.mem_cons_of_mem _ hz))
    by_cases hx : x = 0
    · by_cases hy : y = 0
      · subst hx hy
        have h' : cmpI l m ≠ 0 := by simpa [cmpI] using h
        have := ih h'
        simp [kbs, kb_zero, cmpI, this]
      · subst hx
        have h1 : 0 < y := by omega
        simp [kbs, kb_zero, kb_pos hy, cmpI, h1]
    · by_cases hy : y = 0
      · subst hy
        have h1 : 0 < x := by omega
        have h2 : ¬ x < 0 := by omega
        simp [kbs, kb_zero, kb_pos hx, cmpI, h1, h2]
      · by_cases h1 : x < y
        · simp [kbs, kb_pos hx, kb_pos hy, cmpI, h1]
        · by_cases h2 : y < x
          · simp [kbs, kb_pos hx, kb_pos hy, cmpI, h1, h2]
          · have e : x = y := by omega
            subst e
            have h' : cmpI l m ≠ 0 := by simpa [cmpI] using h
            have := ih h'
            simp [kbs, kb_pos hx, cmpI, this]
/-- a name ends where the other goes on -/
theorem kbs_more (m X Y : List Int) (hm : Nn m) : cmpI (0 :: 0 :: X) (kbs m ++ (0 :: 1 :: Y)) = -1 ∧ cmpI (kbs m ++ (0 :: 1 :: Y)) (0 :: 0 :: X) = 1 := by
  cases m with
  | nil => simp [kbs, cmpI]
  | cons y m =>
    have hy0 := hm y (List.mem_cons_self ..)
    by_cases hy : y = 0
    · subst hy
      simp [kbs, kb_zero, cmpI]
    · have h1 : 0 < y := by omega
      have h2 : ¬ y < 0 := by omega
      simp [kbs, kb_pos hy, cmpI, h1, h2]

theorem kk_cmp : ∀ (A B : List (List Int)) (X Y : List Int), (∀ l ∈ A, Nn l) → (∀ l ∈ B, Nn l) → canonC A B ≠ 0 → cmpI (kk A ++ (0 :: 0 :: X)) (kk B ++ (0 :: 0 :: Y)) = canonC A B
  | [], [], X, Y, _, _, h => by simp [canonC] at h
  | [], m :: B, X, Y, _, hB, _ => by
    have := (kbs_more m X (kk B ++ (0 :: 0 :: Y)) (hB m (List.mem_cons_self ..))).1
    simpa [kk, canonC] using this
  | l :: A, [], X, Y, hA, _, _ => by
    have := (kbs_more l Y (kk A ++ (0 :: 0 :: X)) (hA l (List.mem_cons_self ..))).2
    simpa [kk, canonC] using this
  | l :: A, m :: B, X, Y, hA, hB, h => by
    have hl := hA l (List.mem_cons_self ..)
    have hm := hB m (List.mem_cons_self ..)
    have e1 : kk (l :: A) ++ (0 :: 0 :: X) = kbs l ++ (0 :: 1 :: (kk A ++ (0 :: 0 :: X))) := by simp [kk]
    have e2 : kk (m :: B) ++ (0 :: 0 :: Y) = kbs m ++ (0 :: 1 :: (kk B ++ (0 :: 0 :: Y))) := by simp [kk]
    rw [e1, e2]
    unfold canonC at h ⊢
    by_cases h1 : cmpI l m = 0
    · rw [if_neg (by simpa using h1)] at h ⊢
      have e := cmpI_eq l m h1
      subst e
      rw [cmpI_skip]
      have := kk_cmp A B X Y (fun z hz => hA z (List.mem_cons_of_mem _ hz)) (fun z hz => hB z (List.mem_cons_of_mem _ hz)) h
      simpa [cmpI] using this
    · rw [if_pos h1] at h ⊢
      exact kbs_cmp l m _ _ hl hm h1

theorem lowU_nn (c : UInt8) : 0 ≤ lowU c := by
  unfold lowU lowI
  split <;> omega
theorem lw_nn (ls : List (List UInt8)) : ∀ l ∈ (lw ls).reverse, Nn l := by
  intro l hl
  rw [List.mem_reverse] at hl
  obtain ⟨l', _, rfl⟩ := List.mem_map.1 hl
  intro x hx
  obtain ⟨c, _, rfl⟩ := List.mem_map.1 hx
  exact lowU_nn c

/-! ### THE PLAIN LAW of FnAppendNameKeyOrdersAsCanonical -/
theorem orders_law (ls ms : List (List UInt8)) (p x y : List Int) :
    (canonC (lw ls).reverse (lw ms).reverse = 0 → p ++ key ls = p ++ key ms) ∧
    (canonC (lw ls).reverse (lw ms).reverse ≠ 0 → cmpI ((p ++ key ls) ++ x) ((p ++ key ms) ++ y) = canonC (lw ls).reverse (lw ms).reverse) := by
  constructor
  · intro h
    rw [key_kk, key_kk, canonC_eq _ _ h]
  · intro h
    rw [key_kk, key_kk]
    simp only [List.append_assoc]
    rw [cmpI_skip]
    exact kk_cmp _ _ x y (lw_nn ls) (lw_nn ms) h

theorem drop_getD (A : List Int) (k : Nat) (h : k < A.length) : A.drop k = A.getD k 0 :: A.drop (k + 1) := by
  rw [List.drop_eq_getElem_cons h]
  simp [List.getD, h]
theorem cmp_lt {A B : List Int} {k : Nat} (h1 : k < A.length) (h2 : k < B.length) (h : A.getD k 0 < B.getD k 0) : cmpI (A.drop k) (B.drop k) = -1 := by
  rw [drop_getD A k h1, drop_getD B k h2]
  unfold cmpI
  rw [if_pos h]
theorem cmp_gt {A B : List Int} {k : Nat} (h1 : k < A.length) (h2 : k < B.length) (h : B.getD k 0 < A.getD k 0) : cmpI (A.drop k) (B.drop k) = 1 := by
  rw [drop_getD A k h1, drop_getD B k h2]
  unfold cmpI
  rw [if_neg (by omega), if_pos h]
theorem cmp_same {A B : List Int} {k : Nat} (h1 : k < A.length) (h2 : k < B.length) (h3 : ¬ A.getD k 0 < B.getD k 0) (h : ¬ B.getD k 0 < A.getD k 0) : cmpI (A.drop k) (B.drop k) = cmpI (A.drop (k + 1)) (B.drop (k + 1)) := by
  rw [drop_getD A k h1, drop_getD B k h2]
  have e : cmpI (A.getD k 0 :: A.drop (k + 1)) (B.getD k 0 :: B.drop (k + 1)) = if A.getD k 0 < B.getD k 0 then -1 else if B.getD k 0 < A.getD k 0 then 1 else cmpI (A.drop (k + 1)) (B.drop (k + 1)) := rfl
  rw [e, if_neg h3, if_neg h]
theorem cmp_end {A B : List Int} {k : Nat} (hk : k ≤ A.length) (hk2 : k ≤ B.length) (h : ¬ (k < A.length ∧ k < B.length)) :
    cmpI (A.drop k) (B.drop k) = if A.length < B.length then -1 else if B.length < A.length then 1 else 0 := by
  by_cases h1 : k < A.length
  · have h2 : k = B.length := by omega
    rw [drop_getD A k h1, List.drop_eq_nil_of_le (as := B) (by omega), if_neg (by omega), if_pos (by omega)]
    rfl
  · rw [List.drop_eq_nil_of_le (as := A) (by omega)]
    by_cases h2 : k < B.length
    · rw [drop_getD B k h2, if_pos (by omega)]
      rfl
    · rw [List.drop_eq_nil_of_le (as := B) (by omega), if_neg (by omega), if_neg (by omega)]
      rfl

end Go.Proofs.Qxb6003660a
