import Derived.Test.Qxb6003633aWork
namespace Go.Proofs.Qxb6003633a
open Go.RowKit Go.Maps
set_option linter.unusedVariables false

section
variable {w w' : World} {W bm base : Nat} {sv : Value} {svs : List Value} {names names' : List (List UInt8)} {sp : Sp}

theorem WorkAt.svs_len (h : WorkAt w W bm base sv svs names sp) : svs.length = sp.length := by
  have := h.outer.1
  omega

theorem WorkAt.put (h : WorkAt w W bm base sv svs names sp) (hg : w.grownBy w' (some bm)) (hm : MapIs w' bm names') : WorkAt w' W bm base sv svs names' sp ∧ KFrame base w w' := by
  obtain ⟨es, clock, hmap⟩ := h.map.isMap
  have hne : ∀ (g : Nat) (cs : Array Value) (t : Nat), w.heap[g]? = some (.cells cs t (0, 0)) → w'.heap[g]? = w.heap[g]? := by
    intro g cs t hh
    refine hg.block g (lt_of_some hh) (fun e => ?_)
    have := Option.some.inj e
    subst this
    rw [hmap] at hh; cases hh
  refine ⟨⟨h.hW, h.hbm, Nat.le_trans h.hbase hg.size, by rw [hne _ _ _ h.box]; exact h.box, hm, ?_, fun i hi => ?_, h.apart⟩, ?_⟩
  · exact ownsRow_block h.outer (fun g hgb => by obtain ⟨cs, hc, _⟩ := ownsRow_tag h.outer hgb; exact hne _ _ _ hc)
  · exact ownsRow_block (h.inner i hi) (fun g hgb => by obtain ⟨cs, hc, _⟩ := ownsRow_tag (h.inner i hi) hgb; exact hne _ _ _ hc)
  · exact (KFrame.refl base w).grown h.hbase hg (fun k hk => by have := Option.some.inj hk; subst this; exact ⟨h.hbm, .inl ⟨es, clock, hmap⟩⟩)

theorem getD_snoc {α : Type} (l : List α) (x d : α) (i : Nat) (hi : i < l.length) : (l ++ [x]).getD i d = l.getD i d := by
  simp [List.getD, List.getElem?_append_left hi]
theorem getD_last {α : Type} (l : List α) (x d : α) (i : Nat) (hi : i = l.length) : (l ++ [x]).getD i d = x := by
  subst hi; simp [List.getD]

theorem Tag.ne {w : World} {g g' t t' : Nat} (h : Tag w g t) (h' : Tag w g' t') (hne : t ≠ t') : g ≠ g' := by
  intro e
  subst e
  obtain ⟨cs, hc⟩ := h
  obtain ⟨cs', hc'⟩ := h'
  rw [hc] at hc'
  injection hc' with h4
  injection h4 with _ h6
  exact hne h6

/-- 'w.spans = append(w.spans, nil)' -/
theorem WorkAt.grow_outer {w1 : World} {sv' : Value} {o : Obj} (h : WorkAt w W bm base sv svs names sp) (hg : (w.alloc o).grownBy w1 sv.ownBlock) (hown : w1.ownsRow base 88 1 sv' (sp.length + 1) (svs ++ [.slice none 0 0])) :
    WorkAt (w1.setCell ⟨W, 3, none⟩ sv') W bm base sv' (svs ++ [.slice none 0 0]) names (sp ++ [[]]) ∧ KFrame base w (w1.setCell ⟨W, 3, none⟩ sv') := by
  have hsl := h.svs_len
  have hnx : Nx w (w.alloc o) := Nx.alloc _ _
  have ha := h.later hnx
  have hb1 : base ≤ (w.alloc o).heap.size := ha.hbase
  -- what is not the outer row stands
  have hst : ∀ (g : Nat) (ob : Obj), (w.alloc o).heap[g]? = some ob → (∀ cs, ob ≠ .cells cs 88 (0, 0)) → w1.heap[g]? = some ob := by
    intro g ob hh hne
    rw [hg.block g (lt_of_some hh)]
    · exact hh
    · intro e
      obtain ⟨cs, hc, _⟩ := ownsRow_tag ha.outer e.symm
      rw [hc] at hh
      exact hne cs (Option.some.inj hh).symm
  have hbox1 := hst W _ ha.box (fun cs e => by cases e)
  have htW : Tag w1 W 76 := ⟨_, hbox1⟩
  have hk1 : KFrame base w w1 := ((KFrame.refl base w).nx h.hbase hnx).grown hb1 hg (fun k hk => by
    obtain ⟨cs, hc, hbk⟩ := ownsRow_tag ha.outer hk
    exact ⟨hbk, .inr ⟨cs, 88, hc, .inr (.inl rfl)⟩⟩)
  have hset : ∀ g, g ≠ W → (w1.setCell ⟨W, 3, none⟩ sv').heap[g]? = w1.heap[g]? := fun g hne => heap_setCell_other w1 _ g sv' hne
  have hk2 : KFrame base w (w1.setCell ⟨W, 3, none⟩ sv') := hk1.set h.hW (.inr ⟨_, 76, hbox1, .inl rfl⟩) _
  refine ⟨⟨h.hW, h.hbm, ?_, ?_, ?_, ?_, fun i hi => ?_, fun i j hi hj hne => ?_⟩, hk2⟩
  · have := hk2.below.size; have := h.hbase; omega
  · rw [heap_setCell_same w1 W 3 _ 76 sv' hbox1]; rfl
  · obtain ⟨es, clock, hm⟩ := ha.map.isMap
    have hm1 := hst bm _ hm (fun cs e => by cases e)
    refine (ha.map.of_block (w' := w1) (by rw [hm1, hm])).of_block (hset bm (fun e => ?_))
    subst e
    rw [hbox1] at hm1; cases hm1
  · have hlen : (sp ++ [[]]).length = sp.length + 1 := by simp
    rw [hlen]
    refine ownsRow_block hown (fun g hgb => hset g ?_)
    obtain ⟨cs, hc, _⟩ := ownsRow_tag hown hgb
    exact Tag.ne ⟨cs, hc⟩ htW (by decide)
  · by_cases e : i < sp.length
    · rw [getD_snoc svs _ _ i (by omega), getD_snoc sp _ _ i e]
      refine ownsRow_block (ha.inner i e) (fun g hgb => ?_)
      obtain ⟨cs, hc, _⟩ := ownsRow_tag (ha.inner i e) hgb
      have h1 := hst g _ hc (fun cs' e => by cases e)
      rw [hset g (Tag.ne ⟨cs, h1⟩ htW (by decide)), h1, hc]
    · have hi' : i = sp.length := by simp at hi; omega
      rw [getD_last svs _ _ i (by omega), getD_last sp _ _ i hi']
      exact World.ownsRow_nil _ _ _ _
  · by_cases ei : i < sp.length
    · rw [getD_snoc svs _ _ i (by omega)]
      by_cases ej : j < sp.length
      · rw [getD_snoc svs _ _ j (by omega)]
        exact h.apart i j ei ej hne
      · have hj' : j = svs.length := by simp at hj; omega
        rw [getD_last svs _ _ j hj']
        cases hh : (svs.getD i undef).ownBlock with
        | none => exact .inl rfl
        | some g => exact .inr (by simp [Value.ownBlock])
    · have hi' : i = svs.length := by simp at hi; omega
      rw [getD_last svs _ _ i hi']
      exact .inl rfl

/-- 'w.spans[m] = append(w.spans[m], s)' -/
theorem WorkAt.grow_inner {w1 : World} {g cap' go cap m : Nat} {rv tv : Value} {o : Obj} (h : WorkAt w W bm base sv svs names sp) (hm : m < sp.length) (hsv : sv = .slice (some ⟨go, 0, none⟩) sp.length cap)
    (hg : (w.alloc o).grownBy w1 (svs.getD m undef).ownBlock) (hown : w1.ownsRow base 90 2 (.slice (some ⟨g, 0, none⟩) ((sp.getD m []).length + 1) cap') ((sp.getD m []).length + 1) (flatS (sp.getD m []) ++ [rv, tv]))
    (hat : (svs.getD m undef).ownBlock = some g ∨ g = w.heap.size + 1) :
    WorkAt (w1.setCell ⟨go, m, none⟩ (.slice (some ⟨g, 0, none⟩) ((sp.getD m []).length + 1) cap')) W bm base sv (svs.set m (.slice (some ⟨g, 0, none⟩) ((sp.getD m []).length + 1) cap')) names (sp.set m (sp.getD m [] ++ [(rv, tv)])) ∧
    KFrame base w (w1.setCell ⟨go, m, none⟩ (.slice (some ⟨g, 0, none⟩) ((sp.getD m []).length + 1) cap')) := by
  have hsl := h.svs_len
  have hnx : Nx w (w.alloc o) := Nx.alloc _ _
  have ha := h.later hnx
  have hb1 : base ≤ (w.alloc o).heap.size := ha.hbase
  have hsz : (w.alloc o).heap.size = w.heap.size + 1 := by simp
  -- what is no inner row stands
  have hst : ∀ (k : Nat) (ob : Obj), (w.alloc o).heap[k]? = some ob → (svs.getD m undef).ownBlock ≠ some k → w1.heap[k]? = some ob := by
    intro k ob hh hne
    rw [hg.block k (lt_of_some hh) (fun e => hne e.symm)]
    exact hh
  have hvm : ∀ (k t : Nat), Tag (w.alloc o) k t → t ≠ 90 → (svs.getD m undef).ownBlock ≠ some k := by
    intro k t ht hne e
    obtain ⟨cs, hc, _⟩ := ownsRow_tag (ha.inner m hm) e
    exact Tag.ne ht ⟨cs, hc⟩ hne rfl
  have hbox1 := hst W _ ha.box (hvm W 76 ⟨_, ha.box⟩ (by decide))
  obtain ⟨co, hco, hbgo⟩ := ownsRow_tag ha.outer (g := go) (by rw [hsv]; rfl)
  have hgo1 := hst go _ hco (hvm go 88 ⟨_, hco⟩ (by decide))
  have htg : Tag w1 go 88 := ⟨_, hgo1⟩
  have hk1 : KFrame base w w1 := ((KFrame.refl base w).nx h.hbase hnx).grown hb1 hg (fun k hk => by
    obtain ⟨cs, hc, hbk⟩ := ownsRow_tag (ha.inner m hm) hk
    exact ⟨hbk, .inr ⟨cs, 90, hc, .inr (.inr rfl)⟩⟩)
  have hk2 : KFrame base w (w1.setCell ⟨go, m, none⟩ (.slice (some ⟨g, 0, none⟩) ((sp.getD m []).length + 1) cap')) := hk1.set hbgo (.inr ⟨_, 88, hgo1, .inr (.inl rfl)⟩) _
  have hset : ∀ k, k ≠ go → (w1.setCell ⟨go, m, none⟩ (.slice (some ⟨g, 0, none⟩) ((sp.getD m []).length + 1) cap')).heap[k]? = w1.heap[k]? := fun k hne => heap_setCell_other w1 _ k _ hne
  have hout1 : w1.ownsRow base 88 1 sv sp.length svs := ownsRow_block ha.outer (fun k hk => by
    have : k = go := by rw [hsv] at hk; simpa [Value.ownBlock] using hk.symm
    subst this
    rw [hgo1, hco])
  refine ⟨⟨h.hW, h.hbm, ?_, ?_, ?_, ?_, fun i hi => ?_, fun i j hi hj hne => ?_⟩, hk2⟩
  · have := hk2.below.size; have := h.hbase; omega
  · rw [hset W (Tag.ne ⟨_, hbox1⟩ htg (by decide))]; exact hbox1
  · obtain ⟨es, clock, hmm⟩ := ha.map.isMap
    have hm1 := hst bm _ hmm (fun e => by obtain ⟨cs, hc, _⟩ := ownsRow_tag (ha.inner m hm) e; rw [hmm] at hc; cases hc)
    refine (ha.map.of_block (w' := w1) (by rw [hm1, hmm])).of_block (hset bm (fun e => ?_))
    subst e
    rw [hgo1] at hm1; cases hm1
  · rw [List.length_set]
    have := (hsv ▸ hout1 : w1.ownsRow base 88 1 (.slice (some ⟨go, 0, none⟩) sp.length cap) sp.length svs).stored m (.slice (some ⟨g, 0, none⟩) ((sp.getD m []).length + 1) cap')
    rw [hsv]
    exact this.1
  · rw [List.length_set] at hi
    by_cases e : i = m
    · subst e
      have e1 : (svs.set i (.slice (some ⟨g, 0, none⟩) ((sp.getD i []).length + 1) cap')).getD i undef = .slice (some ⟨g, 0, none⟩) ((sp.getD i []).length + 1) cap' := by
        simp [List.getD, show i < svs.length by omega]
      have e2 : (sp.set i (sp.getD i [] ++ [(rv, tv)])).getD i [] = sp.getD i [] ++ [(rv, tv)] := by
        simp [List.getD, hi]
      rw [e1, e2, List.length_append, flatS_append]
      refine ownsRow_block hown (fun k hk => hset k ?_)
      obtain ⟨cs, hc, _⟩ := ownsRow_tag hown hk
      exact Tag.ne ⟨cs, hc⟩ htg (by decide)
    · have e1 : (svs.set m (.slice (some ⟨g, 0, none⟩) ((sp.getD m []).length + 1) cap')).getD i undef = svs.getD i undef := by
        simp [List.getD, List.getElem?_set_ne (fun h => e h.symm)]
      have e2 : (sp.set m (sp.getD m [] ++ [(rv, tv)])).getD i [] = sp.getD i [] := by
        simp [List.getD, List.getElem?_set_ne (fun h => e h.symm)]
      rw [e1, e2]
      refine ownsRow_block (ha.inner i hi) (fun k hk => ?_)
      obtain ⟨cs, hc, _⟩ := ownsRow_tag (ha.inner i hi) hk
      have h1 := hst k _ hc (fun e3 => by
        rcases h.apart i m hi hm e with h4 | h4
        · rw [h4] at hk; cases hk
        · exact h4 (by rw [hk, e3]))
      rw [hset k (Tag.ne ⟨cs, h1⟩ htg (by decide)), h1, hc]
  · rw [List.length_set] at hi hj
    have eo : ∀ k, k ≠ m → (svs.set m (.slice (some ⟨g, 0, none⟩) ((sp.getD m []).length + 1) cap')).getD k undef = svs.getD k undef := fun k hk => by
      simp [List.getD, List.getElem?_set_ne (fun h => hk h.symm)]
    have em : (svs.set m (.slice (some ⟨g, 0, none⟩) ((sp.getD m []).length + 1) cap')).getD m undef = .slice (some ⟨g, 0, none⟩) ((sp.getD m []).length + 1) cap' := by
      simp [List.getD, show m < svs.length by omega]
    -- another row than m's lies apart from g
    have far : ∀ k, k < sp.length → k ≠ m → (svs.getD k undef).ownBlock ≠ some g := by
      intro k hk hkm e
      rcases hat with hat | hat
      · rcases h.apart k m hk hm hkm with h4 | h4
        · rw [h4] at e; cases e
        · exact h4 (by rw [e, hat])
      · obtain ⟨cs, hc, _⟩ := ownsRow_tag (h.inner k hk) e
        have := lt_of_some hc
        omega
    by_cases ei : i = m
    · subst ei
      rw [em, eo j (fun e => hne e.symm)]
      exact .inr (fun e => far j hj (fun e => hne e.symm) (by rw [← e]; rfl))
    · rw [eo i ei]
      by_cases ej : j = m
      · subst ej
        rw [em]
        exact .inr (fun e => far i hi ei (by rw [e]; rfl))
      · rw [eo j ej]
        exact h.apart i j hi hj hne
end

end Go.Proofs.Qxb6003633a
