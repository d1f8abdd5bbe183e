import Derived.Test.Qxb6003633aRows
import Derived.Test.Qxb6003633aParts
import Derived.WalkKit
import Derived.ProofKit
import Derived.OpenShut
import Derived.ShutString
import Derived.ChangeOld
import Derived.Below
import Derived.SliceStrings
namespace Go.Proofs.Qxb6003633a.fnKeepInPartsAgreesWithWhole
open Go.ChangeShapes Go.WideShapes Go.ChangeAt Go.RowKit
open Go.ChangeMaps (open_string shut_string)
set_option linter.unusedVariables false

theorem own : ownKnob Try.prog.godebug = none := by kernel_rfl
theorem laidOut : laidOutB Try.prog = true := by kernel_rfl

/-- a row of cells that came in, as Cs -/
theorem cs_of {α : Type} {f : α → Value} {d : α} {w : World} {x : Addr} {zs : List α} {len : Nat} (hl : len ≤ zs.length) (h : ∀ i, i < zs.length → w.cell? (x.add i) = some (f (zs.getD i d))) : Cs f d w (some x) (zs.take len) := by
  intro j hj
  have hj' : j < len := by rw [List.length_take] at hj; omega
  have h0 := h 0 (by omega)
  have e0 : x.add 0 = x := by simp [Addr.add]
  rw [e0] at h0
  obtain ⟨g, off, spot⟩ := x
  have hs : spot = none := by
    unfold World.cell? at h0
    split at h0
    · cases spot with
      | none => rfl
      | some s => simp at h0
    · cases h0
  subst hs
  refine ⟨g, off, rfl, ?_⟩
  have hh := h j (by omega)
  have e1 : (Addr.add ⟨g, off, none⟩ j) = ⟨g, off + j, none⟩ := by
    unfold Addr.add
    split
    · subst_vars; rfl
    · rfl
  rw [e1] at hh
  rw [hh]
  simp [List.getD, hj']
theorem len_of {α : Type} {zs : List α} {len : Nat} (hl : len ≤ zs.length) : (zs.take len).length = len := by rw [List.length_take]; omega
theorem wf64 {n : Int} (h : (Lit.int .i64 n).wf = true) : -9223372036854775808 ≤ n ∧ n ≤ 9223372036854775807 := by
  simp [Lit.wf] at h
  have e1 : IntKind.i64.min = -9223372036854775808 := by decide
  have e2 : IntKind.i64.max = 9223372036854775807 := by decide
  omega
theorem getD_mem {α : Type} (l : List α) (d : α) {k : Nat} (hk : k < l.length) : l.getD k d ∈ l := by
  rw [List.getD, List.getElem?_eq_getElem hk]; exact List.getElem_mem hk

/-! ### THE ROW's STEP -/
set_option maxRecDepth 100000 in
theorem lifted (os : Os) (started : os.Started) (H : Type) (enc : TypeId × Value → H) :
    ReturnsInHanded {} Try.checked os 8 .any (Rows.fnKeepInPartsAgreesWithWholeSpec.pre6 enc Try.prog Try.f8 Rows.fnKeepInPartsAgreesWithWholeRow.domain false) (Rows.fnKeepInPartsAgreesWithWholeSpec.post enc Try.prog Try.f8 false true false false) := by
  refine returnsInHanded_of_change (C := Try.checked) own started (by kernel_rfl) Try.func8
    (ChangeSpec.witness6 (enc := enc) (C := Try.checked) false ⟨#[], #[.slice none 0 0, .slice none 0 0, .slice none 0 0, .slice none 0 0, .slice none 0 0, .slice none 0 0, .int .i64 0], []⟩ 8 (by kernel_rfl) (by kernel_rfl) (by kernel_rfl) (by kernel_rfl)) ?_
  intro W base args ds gs before hval0 hW hcnd _
  have hval : ∀ (j : Nat) t v, Try.f8.params[j]? = some t → args[j]? = some v → Value.okWide Try.prog W .any base t v := hval0
  have hW' := hW
  obtain ⟨p, q, hA0, hV, rfl, hfz, hnd⟩ := hW
  have hA : DataW.TrodAll enc Try.prog W 0 (fun _ => true) true Try.f8.params.toList args.toList ds p := hA0
  rw [Try.params8] at hA hval
  obtain ⟨v0, vs0, d0, ds0, p0, q0, hargs, rfl, rfl, h0, r0⟩ := trodAll_cons hA
  obtain ⟨v1, vs1, d1, ds1, p1, q1, rfl, rfl, rfl, h1, r1⟩ := trodAll_cons r0
  obtain ⟨v2, vs2, d2, ds2, p2, q2, rfl, rfl, rfl, h2, r2⟩ := trodAll_cons r1
  obtain ⟨v3, vs3, d3, ds3, p3, q3, rfl, rfl, rfl, h3, r3⟩ := trodAll_cons r2
  obtain ⟨v4, vs4, d4, ds4, p4, q4, rfl, rfl, rfl, h4, r4⟩ := trodAll_cons r3
  obtain ⟨v5, vs5, d5, ds5, p5, q5, rfl, rfl, rfl, h5, r5⟩ := trodAll_cons r4
  obtain ⟨v6, vs6, d6, ds6, p6, q6, rfl, rfl, rfl, h6, r6⟩ := trodAll_cons r5
  obtain ⟨rfl, rfl, rfl⟩ := trodAll_nil r6
  obtain rfl : args = #[v0, v1, v2, v3, v4, v5, v6] := by cases args; simp_all
  obtain ⟨rfl, rfl⟩ := trodVars_none hV
  obtain ⟨a0, len0, cap0, rfl⟩ := okWide_slice Try.underlying40 (hval 0 40 v0 rfl rfl)
  have k0 := h0
  have lt0 : ∀ x ∈ p0, x.block < W.heap.size := by obtain ⟨m, hm⟩ := k0; exact DataW.trod_lt m _ _ _ hm
  obtain ⟨L0, hL0, mL0, C0⟩ : ∃ L : List Int, L.length = len0 ∧ len0 ≤ 9223372036854775807 ∧ Cs (Value.int .i32) 0 W a0 L := by
    obtain ⟨fuel, hf⟩ := h0
    rcases open_ints Try.underlying40 Try.underlying21 (by kernel_rfl) hf with ⟨hcs, _⟩ | ⟨x, l, c, zs, hcs, _, hl, hm, hz, _, hcell, hwz⟩
    · simp [Value.cells] at hcs
      obtain ⟨rfl, rfl, rfl⟩ := hcs
      exact ⟨[], rfl, by omega, fun j hj => absurd hj (by simp)⟩
    · simp [Value.cells] at hcs
      obtain ⟨rfl, rfl, rfl⟩ := hcs
      unfold maxLen at hm
      have hz' : zs.length = cap0 := by simpa using hz
      refine ⟨zs.take len0, len_of (by omega), by omega, cs_of (by omega) hcell⟩
  obtain ⟨a1, len1, cap1, rfl⟩ := okWide_slice Try.underlying41 (hval 1 41 v1 rfl rfl)
  have k1 := h1
  have lt1 : ∀ x ∈ p1, x.block < W.heap.size := by obtain ⟨m, hm⟩ := k1; exact DataW.trod_lt m _ _ _ hm
  obtain ⟨L1, hL1, mL1, C1⟩ : ∃ L : List Int, L.length = len1 ∧ len1 ≤ 9223372036854775807 ∧ Cs (Value.int .u32) 0 W a1 L := by
    obtain ⟨fuel, hf⟩ := h1
    rcases open_ints Try.underlying41 Try.underlying65 (by kernel_rfl) hf with ⟨hcs, _⟩ | ⟨x, l, c, zs, hcs, _, hl, hm, hz, _, hcell, hwz⟩
    · simp [Value.cells] at hcs
      obtain ⟨rfl, rfl, rfl⟩ := hcs
      exact ⟨[], rfl, by omega, fun j hj => absurd hj (by simp)⟩
    · simp [Value.cells] at hcs
      obtain ⟨rfl, rfl, rfl⟩ := hcs
      unfold maxLen at hm
      have hz' : zs.length = cap1 := by simpa using hz
      refine ⟨zs.take len1, len_of (by omega), by omega, cs_of (by omega) hcell⟩
  obtain ⟨a2, len2, cap2, rfl⟩ := okWide_slice Try.underlying42 (hval 2 42 v2 rfl rfl)
  have k2 := h2
  have lt2 : ∀ x ∈ p2, x.block < W.heap.size := by obtain ⟨m, hm⟩ := k2; exact DataW.trod_lt m _ _ _ hm
  obtain ⟨L2, hL2, mL2, C2⟩ : ∃ L : List Int, L.length = len2 ∧ len2 ≤ 9223372036854775807 ∧ Cs (Value.int .i64) 0 W a2 L := by
    obtain ⟨fuel, hf⟩ := h2
    rcases open_ints Try.underlying42 Try.underlying2 (by kernel_rfl) hf with ⟨hcs, _⟩ | ⟨x, l, c, zs, hcs, _, hl, hm, hz, _, hcell, hwz⟩
    · simp [Value.cells] at hcs
      obtain ⟨rfl, rfl, rfl⟩ := hcs
      exact ⟨[], rfl, by omega, fun j hj => absurd hj (by simp)⟩
    · simp [Value.cells] at hcs
      obtain ⟨rfl, rfl, rfl⟩ := hcs
      unfold maxLen at hm
      have hz' : zs.length = cap2 := by simpa using hz
      refine ⟨zs.take len2, len_of (by omega), by omega, cs_of (by omega) hcell⟩
  obtain ⟨a3, len3, cap3, rfl⟩ := okWide_slice Try.underlying42 (hval 3 42 v3 rfl rfl)
  have k3 := h3
  have lt3 : ∀ x ∈ p3, x.block < W.heap.size := by obtain ⟨m, hm⟩ := k3; exact DataW.trod_lt m _ _ _ hm
  obtain ⟨L3, hL3, mL3, C3⟩ : ∃ L : List Int, L.length = len3 ∧ len3 ≤ 9223372036854775807 ∧ Cs (Value.int .i64) 0 W a3 L := by
    obtain ⟨fuel, hf⟩ := h3
    rcases open_ints Try.underlying42 Try.underlying2 (by kernel_rfl) hf with ⟨hcs, _⟩ | ⟨x, l, c, zs, hcs, _, hl, hm, hz, _, hcell, hwz⟩
    · simp [Value.cells] at hcs
      obtain ⟨rfl, rfl, rfl⟩ := hcs
      exact ⟨[], rfl, by omega, fun j hj => absurd hj (by simp)⟩
    · simp [Value.cells] at hcs
      obtain ⟨rfl, rfl, rfl⟩ := hcs
      unfold maxLen at hm
      have hz' : zs.length = cap3 := by simpa using hz
      refine ⟨zs.take len3, len_of (by omega), by omega, cs_of (by omega) hcell⟩
  obtain ⟨a4, len4, cap4, rfl⟩ := okWide_slice Try.underlying43 (hval 4 43 v4 rfl rfl)
  have k4 := h4
  have lt4 : ∀ x ∈ p4, x.block < W.heap.size := by obtain ⟨m, hm⟩ := k4; exact DataW.trod_lt m _ _ _ hm
  obtain ⟨L4, hL4, mL4, C4⟩ : ∃ L : List ByteArray, L.length = len4 ∧ len4 ≤ 9223372036854775807 ∧ Cs Value.string ByteArray.empty W a4 L := by
    obtain ⟨fuel, hf⟩ := h4
    rcases open_strings Try.underlying43 Try.underlying9 (by kernel_rfl) hf with ⟨hcs, _⟩ | ⟨x, l, c, zs, hcs, _, hl, hm, hz, _, hcell, hwz⟩
    · simp [Value.cells] at hcs
      obtain ⟨rfl, rfl, rfl⟩ := hcs
      exact ⟨[], rfl, by omega, fun j hj => absurd hj (by simp)⟩
    · simp [Value.cells] at hcs
      obtain ⟨rfl, rfl, rfl⟩ := hcs
      unfold maxLen at hm
      have hz' : zs.length = cap4 := by simpa using hz
      refine ⟨zs.take len4, len_of (by omega), by omega, cs_of (by omega) hcell⟩
  obtain ⟨a5, len5, cap5, rfl⟩ := okWide_slice Try.underlying44 (hval 5 44 v5 rfl rfl)
  have k5 := h5
  have lt5 : ∀ x ∈ p5, x.block < W.heap.size := by obtain ⟨m, hm⟩ := k5; exact DataW.trod_lt m _ _ _ hm
  obtain ⟨L5, hL5, mL5, C5, hE⟩ : ∃ L : List Int, L.length = len5 ∧ len5 ≤ 9223372036854775807 ∧ Cs (Value.int .i64) 0 W a5 L ∧ (∀ k, -9223372036854775808 ≤ L.getD k 0 ∧ L.getD k 0 ≤ 9223372036854775807) := by
    obtain ⟨fuel, hf⟩ := h5
    rcases open_ints Try.underlying44 Try.underlying3 (by kernel_rfl) hf with ⟨hcs, _⟩ | ⟨x, l, c, zs, hcs, _, hl, hm, hz, _, hcell, hwz⟩
    · simp [Value.cells] at hcs
      obtain ⟨rfl, rfl, rfl⟩ := hcs
      exact ⟨[], rfl, by omega, fun j hj => absurd hj (by simp), fun k => ⟨by simp, by simp⟩⟩
    · simp [Value.cells] at hcs
      obtain ⟨rfl, rfl, rfl⟩ := hcs
      unfold maxLen at hm
      have hz' : zs.length = cap5 := by simpa using hz
      refine ⟨zs.take len5, len_of (by omega), by omega, cs_of (by omega) hcell, fun k => ?_⟩
      by_cases hk : k < (zs.take len5).length
      · exact wf64 (hwz _ (List.mem_of_mem_take (getD_mem (zs.take len5) 0 hk)))
      · have : (zs.take len5).getD k 0 = 0 := by rw [List.getD, List.getElem?_eq_none (by omega)]; rfl
        rw [this]; omega
  obtain ⟨a6, rfl, rfl, rfl, w6⟩ := open_int Try.underlying3 (hval 6 3 v6 rfl rfl) h6
  clear hA0 hval0
  subst hL0 hL1 hL2 hL3 hL4 hL5
  refine (parts_in a0 a1 a2 a3 a4 a5 cap0 cap1 cap2 cap3 cap4 cap5 L0 L1 L2 L3 L4 L5 a6 W C0 C1 C2 C3 C4 C5 hE mL0 mL1 mL2 mL3 mL4 mL5 (wf64 w6).1 (wf64 w6).2).mono fun e W' ⟨he, bel⟩ => ?_
  subst he
  exact ⟨_, rfl, _, _, _, [], _, [], hW', trodAll_mk1 (shut_bool Try.underlying4 _), (trodAll_cons_mk (Below.trod laidOut (by kernel_rfl) (of_decide_eq_true (by kernel_rfl)) k0 bel lt0) (trodAll_cons_mk (Below.trod laidOut (by kernel_rfl) (of_decide_eq_true (by kernel_rfl)) k1 bel lt1) (trodAll_cons_mk (Below.trod laidOut (by kernel_rfl) (of_decide_eq_true (by kernel_rfl)) k2 bel lt2) (trodAll_cons_mk (Below.trod laidOut (by kernel_rfl) (of_decide_eq_true (by kernel_rfl)) k3 bel lt3) (trodAll_cons_mk (Below.trod laidOut (by kernel_rfl) (of_decide_eq_true (by kernel_rfl)) k4 bel lt4) (trodAll_cons_mk (Below.trod laidOut (by kernel_rfl) (of_decide_eq_true (by kernel_rfl)) k5 bel lt5) (trodAll_cons_mk (shut_int Try.underlying3 w6) trodAll_mk0))))))), rfl, bel.frame _, fun h => by cases h⟩

theorem over : Rows.fnKeepInPartsAgreesWithWholeRow.holds Try.pinned (OpenSpec.ofChange Rows.fnKeepInPartsAgreesWithWholeSpec) :=
  OpenClaim.holds_of_wide 8 Try.f8 rfl rfl rfl rfl rfl rfl rfl ⟨rfl, rfl, rfl, rfl, rfl⟩ rfl rfl rfl rfl rfl (by kernel_rfl) Try.func8 (by kernel_rfl)
    (of_decide_eq_true (by kernel_rfl)) (by unfold Func.isWrapper; first | (rw [if_pos (by decide +kernel)]; kernel_rfl) | (rw [if_neg (by decide +kernel)]; exact ⟨rfl, rfl⟩))
    (fun os started H enc _ => lifted os started H enc)

/-- the statement -/
theorem proved : Rows.FnKeepInPartsAgreesWithWholeSaid := over
#print axioms proved
end Go.Proofs.Qxb6003633a.fnKeepInPartsAgreesWithWhole
