import Derived.Test.Qxb6003633aMap
namespace Go.Proofs.Qxb6003633a
open Go.RowKit Go.Maps
set_option linter.unusedVariables false

abbrev Sp := List (List (Value × Value))
def flatS (l : List (Value × Value)) : List Value := l.flatMap (fun p => [p.1, p.2])
theorem flatS_append (a b : List (Value × Value)) : flatS (a ++ b) = flatS a ++ flatS b := by simp [flatS]

/-- a Work as the calls lay it -/
structure WorkAt (w : World) (W bm base : Nat) (sv : Value) (svs : List Value) (names : List (List UInt8)) (sp : Sp) : Prop where
  hW : base ≤ W
  hbm : base ≤ bm
  hbase : base ≤ w.heap.size
  box : w.heap[W]? = some (.cells #[.string ByteArray.empty, .bool false, .map (some bm), sv] 76 (0, 0))
  map : MapIs w bm names
  outer : w.ownsRow base 88 1 sv sp.length svs
  inner : ∀ i, i < sp.length → w.ownsRow base 90 2 (svs.getD i undef) (sp.getD i []).length (flatS (sp.getD i []))
  apart : ∀ i j, i < sp.length → j < sp.length → i ≠ j → (svs.getD i undef).ownBlock = none ∨ (svs.getD i undef).ownBlock ≠ (svs.getD j undef).ownBlock

theorem ownsRow_later {w w' : World} {base : Nat} {e : TypeId} {size : Nat} {v : Value} {n : Nat} {xs : List Value} (h : w.ownsRow base e size v n xs) (hb : Nx w w') : w'.ownsRow base e size v n xs := by
  refine ⟨h.1, ?_⟩
  rcases h.2 with h2 | ⟨g, cap, cur, hv, hbg, hg, r⟩
  · exact .inl h2
  · exact .inr ⟨g, cap, cur, hv, hbg, by rw [Below.block hb g (lt_of_some hg)]; exact hg, r⟩
/-- a row that is owned stands while a block of another kind is turned -/
theorem ownsRow_block {w w' : World} {base : Nat} {e : TypeId} {size : Nat} {v : Value} {n : Nat} {xs : List Value} (h : w.ownsRow base e size v n xs) (hk : ∀ g, v.ownBlock = some g → w'.heap[g]? = w.heap[g]?) : w'.ownsRow base e size v n xs := by
  refine ⟨h.1, ?_⟩
  rcases h.2 with h2 | ⟨g, cap, cur, hv, hbg, hg, r⟩
  · exact .inl h2
  · exact .inr ⟨g, cap, cur, hv, hbg, by rw [hk g (by rw [hv]; rfl)]; exact hg, r⟩
theorem ownsRow_tag {w : World} {base : Nat} {e : TypeId} {size : Nat} {v : Value} {n : Nat} {xs : List Value} (h : w.ownsRow base e size v n xs) {g : Nat} (hg : v.ownBlock = some g) : ∃ cs, w.heap[g]? = some (.cells cs e (0, 0)) ∧ base ≤ g := by
  rcases h.2 with ⟨hv, _⟩ | ⟨g', cap, cur, hv, hbg, hh, _⟩
  · rw [hv] at hg; simp [Value.ownBlock] at hg
  · rw [hv] at hg
    simp [Value.ownBlock] at hg
    subst hg
    exact ⟨cur, hh, hbg⟩

theorem WorkAt.later {w w' : World} {W bm base : Nat} {sv : Value} {svs : List Value} {names : List (List UInt8)} {sp : Sp} (h : WorkAt w W bm base sv svs names sp) (hb : Nx w w') : WorkAt w' W bm base sv svs names sp := by
  obtain ⟨es, clock, hm⟩ := h.map.isMap
  exact ⟨h.hW, h.hbm, Nat.le_trans h.hbase hb.size, later_block h.box hb, h.map.of_block (Below.block hb bm (lt_of_some hm)), ownsRow_later h.outer hb, fun i hi => ownsRow_later (h.inner i hi) hb, h.apart⟩

/-! ### the frame of keep -/
def Exempt (w : World) (k : Nat) : Prop := (∃ es c, w.heap[k]? = some (.map es c)) ∨ ∃ cs t, w.heap[k]? = some (.cells cs t (0, 0)) ∧ (t = 76 ∨ t = 88 ∨ t = 90)
structure KFrame (base : Nat) (w w' : World) : Prop where
  below : Below base w w'
  tags : ∀ (g : Nat) (cs : Array Value) (t : Nat), t ≠ 76 → t ≠ 88 → t ≠ 90 → w.heap[g]? = some (.cells cs t (0, 0)) → w'.heap[g]? = some (.cells cs t (0, 0))
theorem KFrame.refl (base : Nat) (w : World) : KFrame base w w := ⟨Below.refl _ _, fun _ _ _ _ _ _ h => h⟩
theorem KFrame.trans {base : Nat} {a b c : World} (h : KFrame base a b) (k : KFrame base b c) : KFrame base a c :=
  ⟨h.below.trans k.below, fun g cs t h1 h2 h3 hg => k.tags g cs t h1 h2 h3 (h.tags g cs t h1 h2 h3 hg)⟩
theorem KFrame.nx {base : Nat} {a b c : World} (h : KFrame base a b) (hb : base ≤ b.heap.size) (k : Nx b c) : KFrame base a c :=
  h.trans ⟨k.mono hb, fun g cs t _ _ _ hg => later_block hg k⟩
theorem KFrame.grown {base : Nat} {a b c : World} {row : Option Nat} (h : KFrame base a b) (hb : base ≤ b.heap.size) (hg : b.grownBy c row) (hr : ∀ k, row = some k → base ≤ k ∧ Exempt b k) : KFrame base a c := by
  refine h.trans ⟨(Below.refl base b).grown hg hb (fun k hk => (hr k hk).1), fun g cs t h1 h2 h3 hh => ?_⟩
  rw [hg.block g (lt_of_some hh)]
  · exact hh
  · intro e
    rcases (hr g e.symm).2 with ⟨es, c, h4⟩ | ⟨cs', t', h4, h5⟩
    · rw [hh] at h4; cases h4
    · rw [hh] at h4
      injection h4 with h4
      injection h4 with _ h6
      subst h6
      rcases h5 with h5 | h5 | h5
      · exact h1 h5
      · exact h2 h5
      · exact h3 h5
theorem KFrame.set {base : Nat} {a b : World} (h : KFrame base a b) {g j : Nat} (hg : base ≤ g) (hx : Exempt b g) (v : Value) : KFrame base a (b.setCell ⟨g, j, none⟩ v) := by
  refine h.trans ⟨(Below.refl base b).setCell hg v, fun k cs t h1 h2 h3 hh => ?_⟩
  rw [heap_setCell_other b _ k v]
  · exact hh
  · intro e
    simp at e
    subst e
    rcases hx with ⟨es, c, h4⟩ | ⟨cs', t', h4, h5⟩
    · rw [hh] at h4; cases h4
    · rw [hh] at h4
      injection h4 with h4
      injection h4 with _ h6
      subst h6
      rcases h5 with h5 | h5 | h5
      · exact h1 h5
      · exact h2 h5
      · exact h3 h5

theorem KFrame.tag {base : Nat} {w w' : World} (h : KFrame base w w') {g t : Nat} (ht : Tag w g t) (h1 : t ≠ 76) (h2 : t ≠ 88) (h3 : t ≠ 90) : w'.heap[g]? = w.heap[g]? := by
  obtain ⟨cs, hc⟩ := ht
  rw [h.tags g cs t h1 h2 h3 hc, hc]
theorem PartAt.framed {base : Nat} {w w' : World} {p gr gu : Nat} {tv : Value} {M Li H R : List Int} {rn : Bool} {Ms : List ByteArray} {E : List Int} (h : PartAt w p gr gu tv M Li H R rn Ms E) (hf : KFrame base w w') : PartAt w' p gr gu tv M Li H R rn Ms E := by
  have e1 : ∀ j, w'.cell? ⟨gr, j, none⟩ = w.cell? ⟨gr, j, none⟩ := fun j => World.cell?_of_block (hf.tag h.tr (by decide) (by decide) (by decide))
  have e2 : ∀ j, w'.cell? ⟨gu, j, none⟩ = w.cell? ⟨gu, j, none⟩ := fun j => World.cell?_of_block (hf.tag h.tu (by decide) (by decide) (by decide))
  refine ⟨hf.tags _ _ _ (by decide) (by decide) (by decide) h.box, fun i hi => ?_, ?_, fun i hi => ?_, ?_, ?_⟩
  · rw [e1, e1, e1]; exact h.rows i hi
  · rcases h.rates with h1 | ⟨h1, gt, h2, h4, h3⟩
    · exact .inl h1
    · refine .inr ⟨h1, gt, h2, ?_, fun j hj => ?_⟩
      · obtain ⟨cs, hc⟩ := h4
        exact ⟨cs, hf.tags _ _ _ (by decide) (by decide) (by decide) hc⟩
      · obtain ⟨g, off, e, hc⟩ := h3 j hj
        refine ⟨g, off, e, ?_⟩
        have eg : g = gt := by
          have := Option.some.inj e
          exact (congrArg Addr.block this).symm
        subst eg
        rw [World.cell?_of_block (hf.tag h4 (by decide) (by decide) (by decide))]
        exact hc
  · rw [e2, e2, e2, e2]; exact h.runs i hi
  · obtain ⟨cs, hc⟩ := h.tr
    exact ⟨cs, hf.tags _ _ _ (by decide) (by decide) (by decide) hc⟩
  · obtain ⟨cs, hc⟩ := h.tu
    exact ⟨cs, hf.tags _ _ _ (by decide) (by decide) (by decide) hc⟩

end Go.Proofs.Qxb6003633a
