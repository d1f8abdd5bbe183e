import Derived.Test.Qxb6003660aPlain
namespace Go.Proofs.Qxb6003660a

/-- the labels, each behind its length octet -/
def encL : List (List UInt8) → List UInt8
  | [] => []
  | l :: ls => UInt8.ofNat l.length :: (l ++ encL ls)
/-- a name of these labels -/
def nm (ls : List (List UInt8)) : List UInt8 := encL ls ++ [0]
def Good (ls : List (List UInt8)) : Prop := ∀ l ∈ ls, 1 ≤ l.length ∧ l.length ≤ 63
def lw (ls : List (List UInt8)) : List (List Int) := ls.map (fun l => l.map lowU)

theorem nm_cons (l : List UInt8) (ls : List (List UInt8)) : nm (l :: ls) = UInt8.ofNat l.length :: (l ++ nm ls) := by
  simp [nm, encL]
theorem nm_nil : nm [] = [0] := rfl
theorem encL_append (a b : List (List UInt8)) : encL (a ++ b) = encL a ++ encL b := by
  induction a with
  | nil => rfl
  | cons l ls ih => simp [encL, ih]
theorem nm_append (a b : List (List UInt8)) : nm (a ++ b) = encL a ++ nm b := by
  simp [nm, encL_append]
theorem nm_len (a : List (List UInt8)) : (nm a).length = (encL a).length + 1 := by simp [nm]
theorem Good.tail {l : List UInt8} {ls : List (List UInt8)} (h : Good (l :: ls)) : Good ls := fun x hx => h x (List.mem_cons_of_mem _ hx)
theorem Good.append {a b : List (List UInt8)} (ha : Good a) (hb : Good b) : Good (a ++ b) := by
  intro x hx
  rcases List.mem_append.1 hx with h | h
  · exact ha x h
  · exact hb x h
theorem Good.right {a b : List (List UInt8)} (h : Good (a ++ b)) : Good b := fun x hx => h x (List.mem_append.2 (.inr hx))
theorem Good.left {a b : List (List UInt8)} (h : Good (a ++ b)) : Good a := fun x hx => h x (List.mem_append.2 (.inl hx))

theorem ofNat_toNat_small (n : Nat) (h : n ≤ 255) : (UInt8.ofNat n).toNat = n := by
  simp; omega

theorem vN_labels : ∀ (f : Nat) (n : List UInt8), vN f n = true → ∃ ls, Good ls ∧ n = nm ls
  | 0, _, h => by simp [vN] at h
  | f + 1, [], h => by simp [vN] at h
  | f + 1, c :: r, h => by
    have e : vN (f + 1) (c :: r) = if c.toNat = 0 then decide (r.length = 0) else if 63 < c.toNat then false else vN f (r.drop c.toNat) := rfl
    rw [e] at h
    by_cases h0 : c.toNat = 0
    · rw [if_pos h0] at h
      have hr : r = [] := by simpa using h
      have hc : c = 0 := UInt8.toNat_inj.1 (by simpa using h0)
      exact ⟨[], fun _ hx => absurd hx (by simp), by rw [hr, hc]; rfl⟩
    · rw [if_neg h0] at h
      by_cases h1 : 63 < c.toNat
      · rw [if_pos h1] at h; simp at h
      · rw [if_neg h1] at h
        obtain ⟨ls, hg, hls⟩ := vN_labels f _ h
        have hlen : (r.take c.toNat).length = c.toNat := by
          have : (r.drop c.toNat).length = (nm ls).length := by rw [hls]
          rw [nm_len, List.length_drop] at this
          rw [List.length_take]; omega
        refine ⟨r.take c.toNat :: ls, ?_, ?_⟩
        · intro x hx
          rcases List.mem_cons.1 hx with rfl | hx
          · omega
          · exact hg x hx
        · rw [nm_cons, ← hls, hlen, List.take_append_drop]
          simp

theorem vL_labels : ∀ (f : Nat) (n : List UInt8), vL f n = true → ∃ ls, Good ls ∧ n = encL ls
  | 0, n, h => by
    have : n = [] := by simpa [vL] using h
    exact ⟨[], fun _ hx => absurd hx (by simp), this⟩
  | f + 1, [], h => ⟨[], fun _ hx => absurd hx (by simp), rfl⟩
  | f + 1, c :: r, h => by
    have e : vL (f + 1) (c :: r) = if c.toNat = 0 then false else if 63 < c.toNat then false else if r.length < c.toNat then false else vL f (r.drop c.toNat) := rfl
    rw [e] at h
    by_cases h0 : c.toNat = 0
    · rw [if_pos h0] at h; simp at h
    · rw [if_neg h0] at h
      by_cases h1 : 63 < c.toNat
      · rw [if_pos h1] at h; simp at h
      · rw [if_neg h1] at h
        by_cases h2 : r.length < c.toNat
        · rw [if_pos h2] at h; simp at h
        · rw [if_neg h2] at h
          obtain ⟨ls, hg, hls⟩ := vL_labels f _ h
          have hlen : (r.take c.toNat).length = c.toNat := by
            rw [List.length_take]; omega
          refine ⟨r.take c.toNat :: ls, ?_, ?_⟩
          · intro x hx
            rcases List.mem_cons.1 hx with rfl | hx
            · omega
            · exact hg x hx
          · show _ = UInt8.ofNat _ :: (_ ++ encL ls)
            rw [← hls, hlen, List.take_append_drop]
            simp

theorem vName_labels (n : List UInt8) (h : vName n = true) : n.length ≤ 255 ∧ ∃ ls, Good ls ∧ n = nm ls := by
  unfold vName at h
  simp only [Bool.and_eq_true, decide_eq_true_eq] at h
  exact ⟨h.1.2, vN_labels _ _ h.2⟩

theorem lowU_small (n : Nat) (h : n ≤ 63) : lowU (UInt8.ofNat n) = (n : Int) := by
  unfold lowU lowI
  rw [ofNat_toNat_small n (by omega), if_neg (by omega)]

theorem map_nm_cons (l : List UInt8) (ls : List (List UInt8)) (h : l.length ≤ 63) : (nm (l :: ls)).map lowU = (l.length : Int) :: (l.map lowU ++ (nm ls).map lowU) := by
  rw [nm_cons, List.map_cons, List.map_append, lowU_small _ h]

theorem eqF_nm : ∀ (ls ms : List (List UInt8)), Good ls → Good ms → ((nm ls).map lowU = (nm ms).map lowU ↔ lw ls = lw ms)
  | [], [], _, _ => by simp
  | [], m :: ms, _, hm => by
    have h1 := hm m (List.mem_cons_self ..)
    rw [map_nm_cons _ _ h1.2]
    have e : (nm []).map lowU = [0] := by simp [nm, encL]; decide
    rw [e]
    simp [lw]
    intro h
    omega
  | l :: ls, [], hl, _ => by
    have h1 := hl l (List.mem_cons_self ..)
    rw [map_nm_cons _ _ h1.2]
    have e : (nm []).map lowU = [0] := by simp [nm, encL]; decide
    rw [e]
    simp [lw]
    intro h _
    rw [h] at h1
    simp at h1
  | l :: ls, m :: ms, hl, hm => by
    have h1 := hl l (List.mem_cons_self ..)
    have h2 := hm m (List.mem_cons_self ..)
    have ih := eqF_nm ls ms hl.tail hm.tail
    rw [map_nm_cons _ _ h1.2, map_nm_cons _ _ h2.2]
    constructor
    · intro h
      obtain ⟨e1, e2⟩ := List.cons.inj h
      have hlen : l.length = m.length := by omega
      obtain ⟨e3, e4⟩ := List.append_inj e2 (by simpa using hlen)
      have := ih.1 e4
      simp [lw] at this ⊢
      exact ⟨e3, this⟩
    · intro h
      simp only [lw, List.map_cons] at h
      obtain ⟨e1, e2⟩ := List.cons.inj h
      have hlen : l.length = m.length := by simpa using congrArg List.length e1
      rw [e1, ih.2 e2, hlen]

theorem lw_encLen : ∀ (qs ms : List (List UInt8)), lw qs = lw ms → (encL qs).length = (encL ms).length
  | [], [], _ => rfl
  | [], m :: ms, h => by simp [lw] at h
  | q :: qs, [], h => by simp [lw] at h
  | q :: qs, m :: ms, h => by
    simp only [lw, List.map_cons] at h
    obtain ⟨e1, e2⟩ := List.cons.inj h
    have hlen : q.length = m.length := by simpa using congrArg List.length e1
    have := lw_encLen qs ms e2
    simp only [encL, List.length_cons, List.length_append]
    omega

theorem encL_nil_of (ps : List (List UInt8)) (h : (encL ps).length = 0) : ps = [] := by
  cases ps with
  | nil => rfl
  | cons p ps => simp [encL] at h

theorem inZ_spec : ∀ (ls ms : List (List UInt8)) (f : Nat), Good ls → Good ms → (nm ls).length ≤ f → (inZ f (nm ls) (nm ms) = true ↔ ∃ ps qs, ls = ps ++ qs ∧ lw qs = lw ms) := by
  intro ls
  induction ls with
  | nil =>
    intro ms f hl hm hf
    obtain ⟨f, rfl⟩ : ∃ g, f = g + 1 := ⟨f - 1, by rw [nm_len] at hf; omega⟩
    have e : inZ (f + 1) (nm []) (nm ms) = if (nm []).length < (nm ms).length then false else if (nm []).length = (nm ms).length then eqF (nm []) (nm ms) else inZ f ([].drop (0 : UInt8).toNat) (nm ms) := rfl
    rw [e]
    have h0 : (nm []).length = 1 := rfl
    have h1 := nm_len ms
    by_cases c1 : (nm []).length < (nm ms).length
    · rw [if_pos c1]
      simp
      intro h3
      have := lw_encLen _ _ h3
      simp [encL] at this
      omega
    · rw [if_neg c1, if_pos (by omega)]
      unfold eqF
      rw [decide_eq_true_iff, eqF_nm _ _ hl hm]
      constructor
      · intro h; exact ⟨[], [], rfl, h⟩
      · rintro ⟨ps, qs, h, h2⟩
        have : qs = [] := by
          have := congrArg List.length h
          simp at this
          exact List.eq_nil_of_length_eq_zero (by omega)
        rw [this] at h2; exact h2
  | cons l ls ih =>
    intro ms f hl hm hf
    obtain ⟨f, rfl⟩ : ∃ g, f = g + 1 := ⟨f - 1, by rw [nm_len] at hf; omega⟩
    have hll := hl l (List.mem_cons_self ..)
    have e : inZ (f + 1) (nm (l :: ls)) (nm ms) = if (nm (l :: ls)).length < (nm ms).length then false else if (nm (l :: ls)).length = (nm ms).length then eqF (nm (l :: ls)) (nm ms) else inZ f ((l ++ nm ls).drop (UInt8.ofNat l.length).toNat) (nm ms) := by
      rw [nm_cons]; rfl
    have hq : (nm (l :: ls)).length = 1 + l.length + (nm ls).length := by rw [nm_cons]; simp; omega
    have lens : ∀ ps qs : List (List UInt8), l :: ls = ps ++ qs → (nm (l :: ls)).length = (encL ps).length + (encL qs).length + 1 := by
      intro ps qs h
      rw [h, nm_append, List.length_append, nm_len]
      omega
    have h1 := nm_len ms
    rw [e]
    by_cases c1 : (nm (l :: ls)).length < (nm ms).length
    · rw [if_pos c1]
      constructor
      · intro h; simp at h
      · rintro ⟨ps, qs, h, h2⟩
        have := lens ps qs h
        have := lw_encLen _ _ h2
        omega
    · rw [if_neg c1]
      by_cases c2 : (nm (l :: ls)).length = (nm ms).length
      · rw [if_pos c2]
        unfold eqF
        rw [decide_eq_true_iff, eqF_nm _ _ hl hm]
        constructor
        · intro h; exact ⟨[], l :: ls, rfl, h⟩
        · rintro ⟨ps, qs, h, h2⟩
          have h3 := lens ps qs h
          have h4 := lw_encLen _ _ h2
          have : ps = [] := encL_nil_of ps (by omega)
          subst this
          rw [h]; exact h2
      · rw [if_neg c2, ofNat_toNat_small _ (by omega), List.drop_left, ih ms f hl.tail hm (by omega)]
        constructor
        · rintro ⟨ps, qs, h, h2⟩
          exact ⟨l :: ps, qs, by rw [h]; rfl, h2⟩
        · rintro ⟨ps, qs, h, h2⟩
          cases ps with
          | nil =>
            have h3 := lens [] qs h
            have h4 := lw_encLen _ _ h2
            simp [encL] at h3
            omega
          | cons p ps =>
            obtain ⟨_, e2⟩ := List.cons.inj h
            exact ⟨ps, qs, e2, h2⟩

/-! ### swapped case -/
theorem low_swap (c : UInt8) : lowU (swapU c) = lowU c := by
  have h := c.toNat_lt
  have e : (swapU c).toNat = (swapI (c.toNat : Int)).toNat := by
    unfold swapU
    apply ofNat_toNat_small
    unfold swapI
    split
    · omega
    · split <;> omega
  unfold lowU
  rw [e]
  unfold lowI swapI
  split <;> split <;> (try split) <;> omega
theorem swap_small (n : Nat) (h : n ≤ 63) : swapU (UInt8.ofNat n) = UInt8.ofNat n := by
  unfold swapU swapI
  rw [ofNat_toNat_small n (by omega), if_neg (by omega), if_neg (by omega)]
  simp
def swL (ls : List (List UInt8)) : List (List UInt8) := ls.map (fun l => l.map swapU)
theorem swL_good {ls : List (List UInt8)} (h : Good ls) : Good (swL ls) := by
  intro x hx
  obtain ⟨l, hl, rfl⟩ := List.mem_map.1 hx
  simpa using h l hl
theorem swL_lw (ls : List (List UInt8)) : lw (swL ls) = lw ls := by
  simp only [lw, swL, List.map_map]
  apply List.map_congr_left
  intro l _
  simp only [Function.comp, List.map_map]
  apply List.map_congr_left
  intro c _
  exact low_swap c
theorem swL_nm : ∀ (ls : List (List UInt8)), Good ls → (nm ls).map swapU = nm (swL ls)
  | [], _ => by decide
  | l :: ls, h => by
    have h1 := h l (List.mem_cons_self ..)
    have ih := swL_nm ls h.tail
    rw [nm_cons, List.map_cons, List.map_append, ih, swap_small _ h1.2]
    show _ = nm (l.map swapU :: swL ls)
    rw [nm_cons, List.length_map]

theorem suffix_cases {α : Type} (a b c d : List α) (h : a ++ b = c ++ d) : (∃ x, b = x ++ d) ∨ (∃ x, d = x ++ b ∧ x ≠ []) := by
  rcases List.append_eq_append_iff.1 h with ⟨x, h1, h2⟩ | ⟨x, h1, h2⟩
  · exact .inl ⟨x, h2⟩
  · by_cases hx : x = []
    · subst hx; exact .inl ⟨[], by simpa using h2.symm⟩
    · exact .inr ⟨x, h2, hx⟩

/-! ### THE PLAIN LAW of FnInZoneUnderMoreLabels -/
theorem more_labels (pre n z : List UInt8) (hp : vL pre.length pre = true) (hn : vName n = true) (hz : vName z = true) :
    inZ (pre ++ n).length (pre ++ n) n = true ∧ inZ (pre ++ n).length (pre ++ n) (n.map swapU) = true ∧ inZ n.length n (pre ++ n) = decide (pre.length = 0) ∧
    (z.length ≤ n.length → inZ (pre ++ n).length (pre ++ n) z = inZ n.length n z) ∧ (n.length < z.length → inZ (pre ++ n).length (pre ++ n) z = true → inZ z.length z n = true) := by
  obtain ⟨ps, gp, rfl⟩ := vL_labels _ _ hp
  obtain ⟨_, ls, gl, rfl⟩ := vName_labels _ hn
  obtain ⟨_, zs, gz, rfl⟩ := vName_labels _ hz
  have gm : Good (ps ++ ls) := gp.append gl
  rw [← nm_append, swL_nm ls gl]
  refine ⟨?_, ?_, ?_, ?_, ?_⟩
  · rw [inZ_spec _ _ _ gm gl (Nat.le_refl _)]
    exact ⟨ps, ls, rfl, rfl⟩
  · rw [inZ_spec _ _ _ gm (swL_good gl) (Nat.le_refl _)]
    exact ⟨ps, ls, rfl, (swL_lw ls).symm⟩
  · rw [Bool.eq_iff_iff, decide_eq_true_iff, inZ_spec _ _ _ gl gm (Nat.le_refl _)]
    constructor
    · rintro ⟨xs, qs, h, h2⟩
      have h3 := lw_encLen _ _ h2
      have h4 := congrArg (fun x => (encL x).length) h
      simp only [encL_append, List.length_append] at h3 h4
      omega
    · intro h
      have := encL_nil_of ps h
      subst this
      exact ⟨[], ls, rfl, rfl⟩
  · intro hle
    rw [nm_len, nm_len] at hle
    rw [Bool.eq_iff_iff, inZ_spec _ _ _ gm gz (Nat.le_refl _), inZ_spec _ _ _ gl gz (Nat.le_refl _)]
    constructor
    · rintro ⟨xs, qs, h, h2⟩
      rcases suffix_cases _ _ _ _ h with ⟨x, hx⟩ | ⟨x, hx, hx0⟩
      · exact ⟨x, qs, hx, h2⟩
      · have h3 := lw_encLen _ _ h2
        rw [hx, encL_append, List.length_append] at h3
        have : (encL x).length ≠ 0 := fun h0 => hx0 (encL_nil_of x h0)
        omega
    · rintro ⟨xs, qs, h, h2⟩
      exact ⟨ps ++ xs, qs, by rw [h, List.append_assoc], h2⟩
  · intro hlt
    rw [nm_len, nm_len] at hlt
    rw [inZ_spec _ _ _ gm gz (Nat.le_refl _), inZ_spec _ _ _ gz gl (Nat.le_refl _)]
    rintro ⟨xs, qs, h, h2⟩
    have h3 := lw_encLen _ _ h2
    rcases suffix_cases _ _ _ _ h with ⟨x, hx⟩ | ⟨x, hx, _⟩
    · have := congrArg (fun x => (encL x).length) hx
      simp only [encL_append, List.length_append] at this
      omega
    · -- qs = x ++ ls, lw qs = lw zs
      subst hx
      refine ⟨zs.take x.length, zs.drop x.length, (List.take_append_drop _ _).symm, ?_⟩
      have e : lw (zs.drop x.length) = (lw zs).drop x.length := by simp [lw, List.map_drop]
      rw [e, ← h2]
      simp [lw]

end Go.Proofs.Qxb6003660a
