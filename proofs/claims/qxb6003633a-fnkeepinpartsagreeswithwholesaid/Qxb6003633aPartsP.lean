import Derived.Test.Qxb6003633aSame
namespace Go.Proofs.Qxb6003633a
open Go.RowKit Go.Maps
set_option linter.unusedVariables false

/-! ### spans of a part, as rows -/
theorem cutA_at {g size fr e j : Nat} (h : fr + j < e) : cutA g size fr e = some ⟨g, fr * size, none⟩ := by unfold cutA; rw [if_neg (by omega)]
theorem rowsAt_span {w : World} {p gr gu : Nat} {tv : Value} {M Li H R : List Int} {rn : Bool} {Ms : List ByteArray} {E : List Int} (h : PartAt w p gr gu tv M Li H R rn Ms E) (rt : Option Nat) {fr e : Nat} (h2 : e ≤ M.length) (n : Nat) (hn : n = e - fr) (X Y Z : Nat → Int)
    (hX : ∀ j, j < n → X j = M.getD (fr + j) 0) (hY : ∀ j, j < n → Y j = Li.getD (fr + j) 0) (hZ : ∀ j, j < n → Z j = H.getD (fr + j) 0) :
    RowsAt w (spanOf gr rt fr e).1 n X Y Z := by
  subst hn
  refine ⟨cutA gr 3 fr e, e - fr, rfl, fun j hj => ?_⟩
  have hr := h.rows (fr + j) (by omega)
  rw [Nat.add_mul] at hr
  rw [hX j hj, hY j hj, hZ j hj]
  exact ⟨gr, fr * 3, cutA_at (j := j) (by omega), hr⟩
theorem ratesAt_span {w : World} {p gr gu : Nat} {M Li H R : List Int} {Ms : List ByteArray} {E : List Int} (rt : Option Nat) (N : Nat) (h : PartAt w p gr gu (tvOf rt N) M Li H R rt.isNone Ms E) {fr e : Nat} (h2 : rt.isNone = false → e ≤ R.length) (n : Nat) (hn : n = e - fr) (F : Option (Nat → Int)) (hF : F.isNone = rt.isNone)
    (hX : ∀ f, F = some f → ∀ j, j < n → f j = R.getD (fr + j) 0) : RatesAt w (spanOf gr rt fr e).2 n F := by
  subst hn
  cases rt with
  | none =>
    cases F with
    | some f => cases hF
    | none => exact ⟨none, 0, 0, rfl, rfl, fun f hf => by cases hf⟩
  | some gt =>
    cases F with
    | none => cases hF
    | some f =>
      refine ⟨cutA gt 1 fr e, e - fr, e - fr, rfl, ?_, fun f' hf => ⟨rfl, fun j hj => ?_⟩⟩
      · unfold cutA; split <;> rfl
      · have hf := Option.some.inj hf
        subst hf
        rw [hX f rfl j hj]
        rcases h.rates with ⟨h3, _⟩ | ⟨_, gt', h4, _, hcs⟩
        · cases h3
        · injection h4 with h4 _ _
          injection h4 with h4
          injection h4 with h4 _ _
          subst h4
          obtain ⟨g, o, e1, hc⟩ := hcs (fr + j) (by have := h2 rfl; omega)
          have e1 := Option.some.inj e1
          injection e1 with e2 e3
          subst e2 e3
          refine ⟨gt, fr * 1, cutA_at (j := j) (by omega), ?_⟩
          rw [Nat.mul_one]
          rw [Nat.zero_add] at hc
          exact hc

/-! ### ends, cut -/
theorem fromAt_step {E : List Int} {n : Nat} (h : EndsOk E n E.length) {k : Nat} (hk : k < E.length) : fromAt E k ≤ fromAt E (k + 1) := by
  obtain ⟨_, _, h3, _, h5⟩ := ends_nat h k hk
  omega
theorem fromAt_mono {E : List Int} {n : Nat} (h : EndsOk E n E.length) {i k : Nat} (hik : i ≤ k) (hk : k ≤ E.length) : fromAt E i ≤ fromAt E k := by
  induction k with
  | zero => have : i = 0 := by omega
            subst this; exact Nat.le_refl _
  | succ k ih =>
    by_cases e : i = k + 1
    · subst e; exact Nat.le_refl _
    · have h1 := ih (by omega) (by omega)
      have h2 := fromAt_step h (show k < E.length by omega)
      omega
theorem fromAt_le {E : List Int} {n : Nat} (h : EndsOk E n E.length) {k : Nat} (hk : k ≤ E.length) : fromAt E k ≤ n := by
  cases k with
  | zero => unfold fromAt prevE; simp
  | succ k =>
    obtain ⟨_, _, _, h4, h5⟩ := ends_nat h k (by omega)
    omega
theorem prevE_int {E : List Int} {n : Nat} (h : EndsOk E n E.length) {k : Nat} (hk : k ≤ E.length) : prevE E k = (fromAt E k : Int) := by
  cases k with
  | zero => rfl
  | succ k =>
    obtain ⟨h1, _, _, _, h5⟩ := ends_nat h k (by omega)
    rw [prevE_succ, h1, h5]
theorem endAt_from {E : List Int} {n : Nat} (h : EndsOk E n E.length) {k : Nat} (hk : k < E.length) : endAt E k = fromAt E (k + 1) := (ends_nat h k hk).2.2.2.2.symm

theorem take_getD {α : Type} (l : List α) (d : α) {n k : Nat} (h : k < n) : (l.take n).getD k d = l.getD k d := by
  simp [List.getD, h]
theorem drop_getD {α : Type} (l : List α) (d : α) (n k : Nat) : (l.drop n).getD k d = l.getD (n + k) d := by
  simp [List.getD]
theorem endAt_take (E : List Int) {ct k : Nat} (h : k < ct) : endAt (E.take ct) k = endAt E k := by unfold endAt; rw [take_getD _ _ h]
theorem prevE_take (E : List Int) {ct k : Nat} (h : k ≤ ct) : prevE (E.take ct) k = prevE E k := by
  cases k with
  | zero => rfl
  | succ k => rw [prevE_succ, prevE_succ, take_getD _ _ (by omega)]
theorem fromAt_take (E : List Int) {ct k : Nat} (h : k ≤ ct) : fromAt (E.take ct) k = fromAt E k := by unfold fromAt; rw [prevE_take _ h]

theorem ok_take {E : List Int} {n ct : Nat} (h : EndsOk E n E.length) (hc : ct ≤ E.length) : EndsOk (E.take ct) (fromAt E ct) (E.take ct).length := by
  intro i hi
  have hi' : i < ct := by rw [List.length_take] at hi; omega
  rw [prevE_take _ (by omega), take_getD _ _ hi']
  refine ⟨(h i (by omega)).1, ?_⟩
  obtain ⟨h1, _, _, _, h5⟩ := ends_nat h i (by omega)
  rw [h1, ← h5]
  have := fromAt_mono h (show i + 1 ≤ ct by omega) hc
  omega

/-- the ends behind the cut, counted from it -/
def shE (E : List Int) (ct : Nat) : List Int := (List.range (E.length - ct)).map fun j => E.getD (ct + j) 0 - (fromAt E ct : Int)
theorem shE_len (E : List Int) (ct : Nat) : (shE E ct).length = E.length - ct := by simp [shE]
theorem shE_at (E : List Int) {ct j : Nat} (h : j < E.length - ct) : (shE E ct).getD j 0 = E.getD (ct + j) 0 - (fromAt E ct : Int) := by
  simp [shE, List.getD, h]
theorem shE_prev {E : List Int} {n ct : Nat} (h : EndsOk E n E.length) (hc : ct ≤ E.length) {j : Nat} (hj : j ≤ E.length - ct) : prevE (shE E ct) j = prevE E (ct + j) - (fromAt E ct : Int) := by
  cases j with
  | zero => rw [Nat.add_zero, prevE_int h hc]; unfold prevE; simp
  | succ j => rw [prevE_succ, shE_at E (by omega), ← Nat.add_assoc, prevE_succ]
theorem shE_end {E : List Int} {n ct : Nat} (h : EndsOk E n E.length) (hc : ct ≤ E.length) {j : Nat} (hj : j < E.length - ct) : endAt (shE E ct) j = endAt E (ct + j) - fromAt E ct := by
  unfold endAt
  rw [shE_at E hj, (ends_nat h (ct + j) (by omega)).1]
  unfold endAt
  omega
theorem shE_from {E : List Int} {n ct : Nat} (h : EndsOk E n E.length) (hc : ct ≤ E.length) {j : Nat} (hj : j ≤ E.length - ct) : fromAt (shE E ct) j = fromAt E (ct + j) - fromAt E ct := by
  have e1 := shE_prev h hc hj
  rw [prevE_int h (by omega)] at e1
  unfold fromAt at *
  rw [e1]
  omega
theorem ok_shE {E : List Int} {n ct : Nat} (h : EndsOk E n E.length) (hc : ct ≤ E.length) : EndsOk (shE E ct) (n - fromAt E ct) (shE E ct).length := by
  intro i hi
  rw [shE_len] at hi
  rw [shE_prev h hc (by omega), shE_at E hi]
  obtain ⟨h1, h2⟩ := h (ct + i) (by omega)
  have h3 := fromAt_le h hc
  omega

/-! ### two parts kept one behind the other -/
def qW (gr : Nat) (rt : Option Nat) (E : List Int) (i : Nat) : Value × Value := spanOf gr rt (fromAt E i) (endAt E i)
def qP (gr1 : Nat) (rt1 : Option Nat) (gr2 : Nat) (rt2 : Option Nat) (E : List Int) (ct : Nat) (i : Nat) : Value × Value :=
  if i < ct then spanOf gr1 rt1 (fromAt E i) (endAt E i) else spanOf gr2 rt2 (fromAt E i - fromAt E ct) (endAt E i - fromAt E ct)
theorem parts_st {E : List Int} {n ct : Nat} (h : EndsOk E n E.length) (Ms : List ByteArray) (hE : E.length = Ms.length) (hc : ct ≤ Ms.length) (gr1 : Nat) (rt1 : Option Nat) (gr2 : Nat) (rt2 : Option Nat) :
    stK (stK ([], []) gr1 rt1 (Ms.take ct) (E.take ct) (Ms.take ct).length) gr2 rt2 (Ms.drop ct) (shE E ct) (Ms.drop ct).length = stG ([], []) (bOf Ms) (qP gr1 rt1 gr2 rt2 E ct) Ms.length := by
  have hl1 : (Ms.take ct).length = ct := by rw [List.length_take]; omega
  have hl2 : (Ms.drop ct).length = Ms.length - ct := List.length_drop
  rw [hl1, hl2, stK_stG, stK_stG]
  have e1 : stG ([], []) (bOf (Ms.take ct)) (fun k => spanOf gr1 rt1 (fromAt (E.take ct) k) (endAt (E.take ct) k)) ct = stG ([], []) (bOf Ms) (qP gr1 rt1 gr2 rt2 E ct) ct := by
    apply stG_congr
    intro i hi
    refine ⟨?_, ?_⟩
    · unfold bOf; rw [take_getD _ _ hi]
    · show spanOf _ _ _ _ = _
      unfold qP; rw [if_pos hi, fromAt_take _ (by omega), endAt_take _ hi]
  rw [e1]
  have e2 := stG_add ([], []) (bOf Ms) (qP gr1 rt1 gr2 rt2 E ct) ct (Ms.length - ct)
  rw [show ct + (Ms.length - ct) = Ms.length by omega] at e2
  rw [← e2]
  apply stG_congr
  intro i hi
  refine ⟨?_, ?_⟩
  · unfold bOf; rw [drop_getD]
  · show spanOf _ _ _ _ = _
    unfold qP; rw [if_neg (by omega), shE_from h (by omega) (by omega), shE_end h (by omega) (by omega)]

/-- run by run, the whole and the parts read alike -/
theorem alike_runs {w : World} {E M Li H R : List Int} {Ms : List ByteArray} {ct : Nat} (h : EndsOk E M.length E.length) (hE : E.length = Ms.length) (hc : ct ≤ Ms.length) (hM : M.length ≤ 262144)
    {p gr gu p1 gr1 gu1 p2 gr2 gu2 N N1 N2 : Nat} {rt rt1 rt2 : Option Nat} {Ms1 Ms2 : List ByteArray} {E1 E2 : List Int} (hR : rt.isNone = false → R.length = M.length) (hn1 : rt1.isNone = rt.isNone) (hn2 : rt2.isNone = rt.isNone)
    (P : PartAt w p gr gu (tvOf rt N) M Li H R rt.isNone Ms E)
    (P1 : PartAt w p1 gr1 gu1 (tvOf rt1 N1) (M.take (fromAt E ct)) (Li.take (fromAt E ct)) (H.take (fromAt E ct)) (R.take (fromAt E ct)) rt1.isNone Ms1 E1)
    (P2 : PartAt w p2 gr2 gu2 (tvOf rt2 N2) (M.drop (fromAt E ct)) (Li.drop (fromAt E ct)) (H.drop (fromAt E ct)) (R.drop (fromAt E ct)) rt2.isNone Ms2 E2) :
    ∀ i, i < Ms.length → Alike w (qW gr rt E i) (qP gr1 rt1 gr2 rt2 E ct i) := by
  intro i hi
  obtain ⟨_, _, g3, g4, g5⟩ := ends_nat h i (by omega)
  have hce : ct ≤ E.length := by omega
  refine ⟨endAt E i - fromAt E i, fun j => M.getD (fromAt E i + j) 0, fun j => Li.getD (fromAt E i + j) 0, fun j => H.getD (fromAt E i + j) 0, if rt.isNone then none else some fun j => R.getD (fromAt E i + j) 0, by omega, ?_, ?_, ?_, ?_⟩
  · exact rowsAt_span P rt g4 _ rfl _ _ _ (fun _ _ => rfl) (fun _ _ => rfl) (fun _ _ => rfl)
  · refine ratesAt_span rt N P (fun hh => by rw [hR hh]; exact g4) _ rfl _ (by cases rt <;> rfl) ?_
    intro f hf j hj
    split at hf
    · cases hf
    · rw [← Option.some.inj hf]
  · unfold qP
    split
    · rename_i hlt
      have hle := fromAt_mono h (show i + 1 ≤ ct by omega) hce
      refine rowsAt_span P1 rt1 (by rw [List.length_take]; omega) _ rfl _ _ _ ?_ ?_ ?_ <;> (intro j hj; rw [take_getD _ _ (by omega)])
    · rename_i hlt
      have hle := fromAt_mono h (show ct ≤ i by omega) (by omega)
      refine rowsAt_span P2 rt2 (by rw [List.length_drop]; omega) _ (by omega) _ _ _ ?_ ?_ ?_ <;> (intro j hj; rw [drop_getD]; congr 1; omega)
  · unfold qP
    split
    · rename_i hlt
      have hle := fromAt_mono h (show i + 1 ≤ ct by omega) hce
      refine ratesAt_span rt1 N1 P1 (fun hh => ?_) _ rfl _ (by rw [hn1]; cases rt <;> rfl) ?_
      · have := hR (by rw [← hn1]; exact hh)
        rw [List.length_take]; omega
      · intro f hf j hj
        split at hf
        · cases hf
        · rw [← Option.some.inj hf, take_getD _ _ (by omega)]
    · rename_i hlt
      have hle := fromAt_mono h (show ct ≤ i by omega) (by omega)
      refine ratesAt_span rt2 N2 P2 (fun hh => ?_) _ (by omega) _ (by rw [hn2]; cases rt <;> rfl) ?_
      · have := hR (by rw [← hn2]; exact hh)
        rw [List.length_drop]; omega
      · intro f hf j hj
        split at hf
        · cases hf
        · rw [← Option.some.inj hf, drop_getD]
          show R.getD _ 0 = R.getD _ 0
          congr 1; omega

end Go.Proofs.Qxb6003633a
