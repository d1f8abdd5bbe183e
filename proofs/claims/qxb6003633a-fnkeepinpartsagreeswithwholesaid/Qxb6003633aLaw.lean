import Derived.Test.Qxb6003633aKeepP
import Derived.Test.Qxb6003633aFirsts
import Derived.Test.Qxb6003633aAcc
namespace Go.Proofs.Qxb6003633a
set_option linter.unusedVariables false

/-! ### keep over whatever members and spans -/
def stG (st : List (List UInt8) × Sp) (bs : Nat → List UInt8) (q : Nat → Value × Value) : Nat → List (List UInt8) × Sp
  | 0 => st
  | k + 1 => stepK (stG st bs q k) (bs k) (q k)
theorem stK_stG (st : List (List UInt8) × Sp) (gr : Nat) (rt : Option Nat) (Ms : List ByteArray) (E : List Int) : ∀ k, stK st gr rt Ms E k = stG st (bOf Ms) (fun k => spanOf gr rt (fromAt E k) (endAt E k)) k
  | 0 => rfl
  | k + 1 => by
    rw [stK_succ, stK_stG st gr rt Ms E k]
    rfl

def isF (bs : Nat → List UInt8) (i : Nat) : Bool := !((List.range i).any (fun j => bs j == bs i))
def dG (bs : Nat → List UInt8) : Nat → Nat
  | 0 => 0
  | k + 1 => dG bs k + if isF bs k then 1 else 0
def cntG (bs : Nat → List UInt8) (b : List UInt8) : Nat → Nat
  | 0 => 0
  | k + 1 => cntG bs b k + if bs k = b then 1 else 0
theorem isFirst_isF (Ms : List ByteArray) (i : Nat) : isFirst Ms i = isF (bOf Ms) i := rfl
theorem dTo_dG (Ms : List ByteArray) : ∀ k, dTo Ms k = dG (bOf Ms) k
  | 0 => rfl
  | k + 1 => by
    show dTo Ms k + _ = dG (bOf Ms) k + _
    rw [dTo_dG Ms k]
    rfl

theorem cntG_mono (bs : Nat → List UInt8) (b : List UInt8) {i k : Nat} (h : i ≤ k) : cntG bs b i ≤ cntG bs b k := by
  induction k with
  | zero => have : i = 0 := by omega
            subst this; exact Nat.le_refl _
  | succ k ih =>
    by_cases e : i = k + 1
    · subst e; exact Nat.le_refl _
    · have := ih (by omega)
      simp only [cntG]; omega
theorem cntG_lt (bs : Nat → List UInt8) {i k : Nat} (h : i < k) : cntG bs (bs i) i < cntG bs (bs i) k := by
  have := cntG_mono bs (bs i) (show i + 1 ≤ k by omega)
  simp only [cntG, if_true] at this
  omega
theorem cntG_zero {bs : Nat → List UInt8} {b : List UInt8} {k : Nat} (h : ∀ j, j < k → bs j ≠ b) : cntG bs b k = 0 := by
  induction k with
  | zero => rfl
  | succ k ih =>
    have := ih (fun j hj => h j (by omega))
    simp [cntG, this, h k (by omega)]
theorem isF_true_iff (bs : Nat → List UInt8) (i : Nat) : isF bs i = true ↔ ∀ j, j < i → bs j ≠ bs i := by
  unfold isF
  rw [Bool.not_eq_true', Bool.eq_false_iff, Ne, List.any_eq_true]
  constructor
  · intro h j hj e
    exact h ⟨j, by simpa using hj, by simpa using e⟩
  · rintro h ⟨j, hj, e⟩
    exact h j (by simpa using hj) (by simpa using e)

/-- what holds behind k runs, from an empty Work -/
structure InvG (bs : Nat → List UInt8) (q : Nat → Value × Value) (k : Nat) (names : List (List UInt8)) (sp : Sp) : Prop where
  len : names.length = dG bs k
  slen : sp.length = dG bs k
  mem : ∀ b, b ∈ names ↔ ∃ i, i < k ∧ bs i = b
  place : ∀ j, j < k → isF bs j = true → names.idxOf (bs j) = dG bs j
  count : ∀ i, i < k → (sp.getD (names.idxOf (bs i)) []).length = cntG bs (bs i) k
  span : ∀ i, i < k → (sp.getD (names.idxOf (bs i)) []).getD (cntG bs (bs i) i) noSpan = q i

theorem idxOf_lt {names : List (List UInt8)} {b : List UInt8} (h : b ∈ names) : names.idxOf b < names.length := List.idxOf_lt_length_of_mem h
theorem idxOf_inj {names : List (List UInt8)} {b c : List UInt8} (hb : b ∈ names) (hc : c ∈ names) (h : names.idxOf b = names.idxOf c) : b = c := by
  have h1 := List.getElem_idxOf (idxOf_lt hb)
  have h2 := List.getElem_idxOf (idxOf_lt hc)
  rw [← h1, ← h2]
  congr 1
theorem getD_app {l : List (Value × Value)} {x : Value × Value} {i : Nat} (h : i < l.length) : (l ++ [x]).getD i noSpan = l.getD i noSpan := by
  simp [List.getD, List.getElem?_append_left h]

theorem invG (bs : Nat → List UInt8) (q : Nat → Value × Value) : ∀ k, InvG bs q k (stG ([], []) bs q k).1 (stG ([], []) bs q k).2
  | 0 => ⟨rfl, rfl, fun b => by simp [stG], fun j hj => by omega, fun i hi => by omega, fun i hi => by omega⟩
  | k + 1 => by
    have I := invG bs q k
    show InvG bs q (k + 1) (stepK (stG ([], []) bs q k) (bs k) (q k)).1 (stepK (stG ([], []) bs q k) (bs k) (q k)).2
    generalize stG ([], []) bs q k = st at I ⊢
    obtain ⟨names, sp⟩ := st
    have hl : names.length = sp.length := by rw [I.len, I.slen]
    cases hc : names.contains (bs k) with
    | true =>
      have hm : bs k ∈ names := by simpa using hc
      have hnf : isF bs k = false := by
        rw [Bool.eq_false_iff]
        intro h
        obtain ⟨i, hi, e⟩ := (I.mem _).1 hm
        exact (isF_true_iff bs k).1 h i hi e
      have hst := stepK_old (st := (names, sp)) (b := bs k) hc (q k)
      rw [hst]
      have hp : names.idxOf (bs k) < sp.length := by rw [← hl]; exact idxOf_lt hm
      have hcnt : (sp.getD (names.idxOf (bs k)) []).length = cntG bs (bs k) k := by
        obtain ⟨i, hi, e⟩ := (I.mem _).1 hm
        have := I.count i hi
        rw [e] at this; exact this
      refine ⟨?_, ?_, ?_, ?_, ?_, ?_⟩
      · show names.length = _
        simp [dG, hnf, I.len]
      · simp [dG, hnf, I.slen]
      · intro b
        show b ∈ names ↔ _
        rw [I.mem]
        constructor
        · rintro ⟨i, hi, e⟩; exact ⟨i, by omega, e⟩
        · rintro ⟨i, hi, e⟩
          by_cases ek : i = k
          · subst ek
            obtain ⟨i', hi', e'⟩ := (I.mem _).1 hm
            exact ⟨i', hi', by rw [e', e]⟩
          · exact ⟨i, by omega, e⟩
      · intro j hj hf
        show names.idxOf (bs j) = _
        have : j ≠ k := fun e => by rw [e, hnf] at hf; cases hf
        exact I.place j (by omega) hf
      · intro i hi
        show ((sp.set (names.idxOf (bs k)) _).getD (names.idxOf (bs i)) []).length = _
        rw [getD_set]
        simp only [cntG]
        by_cases e : bs i = bs k
        · rw [e, if_pos ⟨rfl, hp⟩, if_pos rfl]
          simp only [List.length_append, List.length_cons, List.length_nil]
          show (sp.getD (names.idxOf (bs k)) []).length + 1 = _
          rw [hcnt]
        · have hik : i < k := by
            rcases Nat.lt_or_ge i k with h | h
            · exact h
            · exact absurd (by rw [show i = k by omega]) e
          have him : bs i ∈ names := (I.mem _).2 ⟨i, hik, rfl⟩
          rw [if_neg (fun h => e (idxOf_inj him hm h.1.symm)), if_neg (fun h => e h.symm), I.count i hik]
          omega
      · intro i hi
        show ((sp.set (names.idxOf (bs k)) _).getD (names.idxOf (bs i)) []).getD _ noSpan = _
        rw [getD_set]
        by_cases e : bs i = bs k
        · rw [e, if_pos ⟨rfl, hp⟩]
          by_cases ek : i = k
          · subst ek
            show (sp.getD (names.idxOf (bs i)) [] ++ [q i]).getD _ noSpan = _
            rw [← hcnt]
            simp [List.getD]
          · show (sp.getD (names.idxOf (bs k)) [] ++ [q k]).getD _ noSpan = _
            rw [getD_app (by rw [hcnt, ← e]; exact cntG_lt bs (by omega))]
            have := I.span i (by omega)
            rw [e] at this; exact this
        · have hik : i < k := by
            rcases Nat.lt_or_ge i k with h | h
            · exact h
            · exact absurd (by rw [show i = k by omega]) e
          have him : bs i ∈ names := (I.mem _).2 ⟨i, hik, rfl⟩
          rw [if_neg (fun h => e (idxOf_inj him hm h.1.symm))]
          exact I.span i hik
    | false =>
      have hm : bs k ∉ names := by simpa using hc
      have hf : isF bs k = true := (isF_true_iff bs k).2 (fun j hj e => hm ((I.mem _).2 ⟨j, hj, e⟩))
      have hst := stepK_new (st := (names, sp)) (b := bs k) hc (q k)
      rw [hst]
      have hidk : (names ++ [bs k]).idxOf (bs k) = names.length := by
        rw [List.idxOf_append, if_neg hm]; simp
      have hidm : ∀ b, b ∈ names → (names ++ [bs k]).idxOf b = names.idxOf b := fun b hb => by
        rw [List.idxOf_append, if_pos hb]
      have hz : cntG bs (bs k) k = 0 := cntG_zero (fun j hj e => hm ((I.mem _).2 ⟨j, hj, e⟩))
      have hlast : ((sp ++ [[]]).set sp.length ((sp ++ [[]]).getD sp.length [] ++ [q k])).getD sp.length [] = [q k] := by
        rw [getD_set, if_pos ⟨rfl, by simp⟩, getD_last _ _ _ _ rfl]; rfl
      have hold : ∀ p, p < sp.length → ((sp ++ [[]]).set sp.length ((sp ++ [[]]).getD sp.length [] ++ [q k])).getD p [] = sp.getD p [] := fun p hp => by
        rw [getD_set, if_neg (by omega), getD_snoc _ _ _ _ hp]
      refine ⟨?_, ?_, ?_, ?_, ?_, ?_⟩
      · show (names ++ [bs k]).length = _
        simp [dG, hf, I.len]
      · simp [dG, hf, I.slen]
      · intro b
        show b ∈ names ++ [bs k] ↔ _
        rw [List.mem_append, I.mem]
        constructor
        · rintro (⟨i, hi, e⟩ | h)
          · exact ⟨i, by omega, e⟩
          · exact ⟨k, by omega, (List.mem_singleton.1 h).symm⟩
        · rintro ⟨i, hi, e⟩
          by_cases ek : i = k
          · subst ek; exact .inr (by simp [e])
          · exact .inl ⟨i, by omega, e⟩
      · intro j hj hfj
        show (names ++ [bs k]).idxOf (bs j) = _
        by_cases ek : j = k
        · subst ek; rw [hidk, I.len]
        · rw [hidm _ ((I.mem _).2 ⟨j, by omega, rfl⟩)]
          exact I.place j (by omega) hfj
      · intro i hi
        show (((sp ++ [[]]).set sp.length ((sp ++ [[]]).getD sp.length [] ++ [q k])).getD ((names ++ [bs k]).idxOf (bs i)) []).length = _
        by_cases ek : i = k
        · subst ek
          rw [hidk, hl, hlast]
          simp [cntG, hz]
        · have him : bs i ∈ names := (I.mem _).2 ⟨i, by omega, rfl⟩
          rw [hidm _ him, hold _ (by rw [← hl]; exact idxOf_lt him), I.count i (by omega)]
          simp only [cntG]
          rw [if_neg (fun e => hm (by rw [e]; exact him))]
          omega
      · intro i hi
        show (((sp ++ [[]]).set sp.length ((sp ++ [[]]).getD sp.length [] ++ [q k])).getD ((names ++ [bs k]).idxOf (bs i)) []).getD _ noSpan = _
        by_cases ek : i = k
        · subst ek
          rw [hidk, hl, hlast, hz]
          rfl
        · have him : bs i ∈ names := (I.mem _).2 ⟨i, by omega, rfl⟩
          rw [hidm _ him, hold _ (by rw [← hl]; exact idxOf_lt him)]
          exact I.span i (by omega)

/-- the first place of a member -/
theorem first_of (bs : Nat → List UInt8) (i : Nat) : ∃ j, j ≤ i ∧ isF bs j = true ∧ bs j = bs i ∧ ∀ t, t < j → bs t ≠ bs i := by
  induction i using Nat.strongRecOn with
  | ind i ih =>
    cases h : isF bs i with
    | true => exact ⟨i, Nat.le_refl _, h, rfl, (isF_true_iff bs i).1 h⟩
    | false =>
      have : ¬ ∀ j, j < i → bs j ≠ bs i := fun hh => by rw [(isF_true_iff bs i).2 hh] at h; cases h
      have : ∃ j, j < i ∧ bs j = bs i := by
        apply Classical.byContradiction
        intro hn
        exact this (fun j hj e => hn ⟨j, hj, e⟩)
      obtain ⟨j, hj, e⟩ := this
      obtain ⟨j', h1, h2, h3, h4⟩ := ih j hj
      exact ⟨j', by omega, h2, by rw [h3, e], fun t ht => by rw [← e]; exact h4 t ht⟩

end Go.Proofs.Qxb6003633a
