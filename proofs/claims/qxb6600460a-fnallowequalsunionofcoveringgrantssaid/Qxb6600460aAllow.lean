import Derived.Test.Qxb6600460aCov
namespace Go.Proofs.Qxb6600460a
open Go.RowKit
set_option linter.unusedVariables false

def starB : ByteArray := ⟨#[42]⟩
/-- does the grant x give the action a on the resource (wt, wn)? -/
def gives (wt wn : ByteArray) (a : ByteArray) (x : Gr) : Bool :=
  cov x.ty.data.toList x.nm.data.toList wt.data.toList wn.data.toList && (Lib.containsS x.acts a || Lib.containsS x.acts starB)

theorem drop_w {P : Program} {f : FuncId} {args : Array Value} {w : World} {e0 : Ending} {R : Ending → World → Prop} (h : Calls P f args w fun e w' => e = e0 ∧ w' = w) (hr : R e0 w) : Calls P f args w R := h.mono (by rintro e w' ⟨rfl, rfl⟩; exact hr)

set_option maxHeartbeats 400000 in
theorem lit25 (x : Gr) (bw ba : Nat) (t s a : ByteArray) (bo : Option Addr) (m d : Nat) (w : World) (hs : x.nm.size ≤ 9223372036854775807) (hL : x.acts.length ≤ 9223372036854775807) (hX : Ss w x.ao x.acts)
    (h0 : w.cell? ⟨bw, 0, none⟩ = some (.string t)) (h1 : w.cell? ⟨bw, 1, none⟩ = some (.string s)) (h2 : w.cell? ⟨bw, 2, none⟩ = some (.slice bo m d)) (h3 : w.cell? ⟨ba, 0, none⟩ = some (.string a)) :
    Calls Try.prog 25 #[.agg #[.string x.ty, .string x.nm, .slice x.ao x.acts.length x.cap], .pointer (some ⟨bw, 0, none⟩), .pointer (some ⟨ba, 0, none⟩)] w fun e w' => e = .returned (.bool (gives t s a x)) ∧ Hid (Nx w w') := by
  obtain ⟨xt, xn, xo, c, L⟩ := x
  simp only at hs hL hX ⊢
  have HG : Hid (gives t s a ⟨xt, xn, xo, c, L⟩ = (cov xt.data.toList xn.data.toList t.data.toList s.data.toList && (Lib.containsS L a || Lib.containsS L starB))) := rfl
  have HC := hid (fun w => covers22 xt xn t s xo bo L.length m c d w hs)
  have HX := hid hX
  have HK := hid (fun w x h => contains26 xo L c x w h hL)
  generalize gives t s a ⟨xt, xn, xo, c, L⟩ = v at HG ⊢
  clear hs hL hX
  have hlt0 : bw < w.heap.size := cell_lt h0
  have hlt1 : ba < w.heap.size := cell_lt h3
  obtain ⟨w1, hw1⟩ : ∃ w1, w1 = w.alloc (.cells #[.string xt, .string xn, .slice xo L.length c] 26) := ⟨_, rfl⟩
  have HN1 : Hid (Nx w w1) := by rw [hw1]; exact Nx.alloc _ _
  have hc2 : w1.cell? ⟨w.heap.size, 2, none⟩ = some (.slice xo L.length c) := by rw [hw1]; unfold World.cell?; rw [alloc_last]; rfl
  have HC2 := hid hc2
  have H3 := hid h3
  clear hc2
  go_enter Try.func25, Try.ntmps25
  go_wp2_with fail
  refine (HC.out _).mono ?_
  rw [← hw1]
  rintro e w2 ⟨rfl, HN2⟩
  generalize cov xt.data.toList xn.data.toList t.data.toList s.data.toList = b at HG
  clear h0 h1 h2 h3
  have k2 := HN2.out.cell HC2.out
  have k3 := (HN1.out.trans HN2.out).cell H3.out
  have HN := hid (HN1.out.trans HN2.out)
  cases b with
  | false =>
    go_wp2_with fail
    go_ret
    exact ⟨ret_bool (by rw [HG.out]; rfl), HN⟩
  | true =>
    go_wp2_with fail
    refine drop_w (HK.out _ _ (HX.out.later HN.out)) ?_
    generalize Lib.containsS L a = b1 at HG
    cases b1 with
    | true =>
      go_wp2_with fail
      go_ret
      exact ⟨ret_bool (by rw [HG.out]; rfl), HN⟩
    | false =>
      go_wp2_with fail
      refine drop_w (HK.out _ _ (HX.out.later HN.out)) ?_
      go_wp2_with fail
      go_ret
      exact ⟨ret_bool (by rw [HG.out]; simp [starB]), HN⟩

set_option maxHeartbeats 400000 in
theorem zzc15 (ao : Option Addr) (L : List ByteArray) (cap : Nat) (x : ByteArray) (w : World) (h : Ss w ao L) (hL : L.length ≤ 9223372036854775807) :
    Calls Try.prog 15 #[.slice ao L.length cap, .string x] w fun e w' => e = .returned (.bool (Lib.containsS L x)) ∧ w' = w := by
  have HC := hid h
  clear h
  go_enter Try.func15, Try.ntmps15
  go_wp2
  go_loopw [5] (fun i wr => ∃ k : Nat, k ≤ L.length ∧ i = .int .i64 k ∧ Hid (∀ j, j < k → L.getD j ByteArray.empty ≠ x) ∧ wr = w) (fun i _ => L.length - (intOf i).toNat)
  case atStart => exact ⟨0, by omega, rfl, hid (fun j hj => absurd hj (Nat.not_lt_zero _)), rfl⟩
  case round =>
    obtain ⟨k, hk, rfl, HM, rfl⟩ := hrel
    by_cases h1 : k < L.length
    · obtain ⟨g, off, rfl, hc⟩ := HC.out k h1
      obtain ⟨y, hy⟩ : ∃ y, y = L.getD k ByteArray.empty := ⟨_, rfl⟩
      rw [← hy] at hc
      have HY := hid hy
      clear hy
      by_cases h2 : (y.toList == x.toList) = true
      · have H2 := hid h2
        go_wp2_with fail
        go_ret
        refine ⟨ret_bool ?_, rfl⟩
        symm
        rw [Lib.containsS_iff]
        have e := (Lib.bytes_beq_iff _ _).1 H2.out
        rw [← e, HY.out, List.getD, List.getElem?_eq_getElem h1]
        exact List.getElem_mem h1
      · have h2' : (y.toList == x.toList) = false := by simpa using h2
        clear h2
        have H2 := hid h2'
        go_wp2_with fail
        go_roundw
        case rel =>
          refine ⟨k + 1, by omega, by go_num, hid (fun j hj => ?_), by first | rfl | trivial⟩
          by_cases e : j = k
          · subst e
            rw [← HY.out]
            exact (Lib.bytes_beq_false_iff _ _).1 H2.out
          · exact HM.out j (by omega)
        case measure => simp [intOf]; omega
    · obtain rfl : k = L.length := by omega
      go_wp2_with fail
      go_ret
      refine ⟨ret_bool ?_, rfl⟩
      symm
      rw [Bool.eq_false_iff]
      intro hh
      rw [Lib.containsS_iff] at hh
      obtain ⟨j, hj, e⟩ := List.getElem_of_mem hh
      refine HM.out j hj ?_
      rw [List.getD, List.getElem?_eq_getElem hj]
      exact e

theorem any_hit {α : Type} {G : List α} {d : α} {f : α → Bool} {k : Nat} (hk : k < G.length) (h : f (G.getD k d) = true) : G.any f = true := by
  rw [List.any_eq_true]
  refine ⟨G.getD k d, ?_, h⟩
  rw [List.getD, List.getElem?_eq_getElem hk]
  exact List.getElem_mem hk
theorem any_miss {α : Type} {G : List α} {d : α} {f : α → Bool} (h : ∀ j, j < G.length → f (G.getD j d) = false) : G.any f = false := by
  rw [List.any_eq_false]
  intro x hx
  obtain ⟨j, hj, e⟩ := List.getElem_of_mem hx
  have := h j hj
  rw [List.getD, List.getElem?_eq_getElem hj] at this
  simp only [Option.getD_some] at this
  rw [e] at this
  rw [this]
  exact Bool.false_ne_true
theorem all_miss {α : Type} {G : List α} {d : α} {f : α → Bool} {k : Nat} (hk : k < G.length) (h : f (G.getD k d) = false) : G.all f = false := by
  rw [List.all_eq_false]
  refine ⟨G.getD k d, ?_, by rw [h]; exact Bool.false_ne_true⟩
  rw [List.getD, List.getElem?_eq_getElem hk]
  exact List.getElem_mem hk
theorem all_hit {α : Type} {G : List α} {d : α} {f : α → Bool} (h : ∀ j, j < G.length → f (G.getD j d) = true) : G.all f = true := by
  rw [List.all_eq_true]
  intro x hx
  obtain ⟨j, hj, e⟩ := List.getElem_of_mem hx
  have := h j hj
  rw [List.getD, List.getElem?_eq_getElem hj] at this
  simp only [Option.getD_some] at this
  rw [e] at this
  exact this

set_option maxHeartbeats 400000 in
theorem idx30 (ao : Option Addr) (G : List Gr) (cap : Nat) (bw ba : Nat) (t s a : ByteArray) (bo : Option Addr) (m d : Nat) (w : World) (h : Gs w ao G) (hG : G.length ≤ 1048576)
    (hs : ∀ k, k < G.length → (G.getD k default).nm.size ≤ 1048576 ∧ (G.getD k default).acts.length ≤ 1048576)
    (h0 : w.cell? ⟨bw, 0, none⟩ = some (.string t)) (h1 : w.cell? ⟨bw, 1, none⟩ = some (.string s)) (h2 : w.cell? ⟨bw, 2, none⟩ = some (.slice bo m d)) (h3 : w.cell? ⟨ba, 0, none⟩ = some (.string a)) :
    Calls Try.prog 30 #[.slice ao G.length cap, .func (.func 25) #[] #[.pointer (some ⟨bw, 0, none⟩), .pointer (some ⟨ba, 0, none⟩)]] w fun e w' => (∃ r : Int, e = .returned (.int .i64 r) ∧ decide (r ≥ 0) = G.any (gives t s a)) ∧ Hid (Nx w w') := by
  have HC := hid h
  have HS := hid hs
  have H0 := hid h0
  have H1 := hid h1
  have H2 := hid h2
  have H3 := hid h3
  clear h h0 h1 h2 h3 hs
  go_enter Try.func30, Try.ntmps30
  go_wp2
  go_loopw [8] (fun i wr => ∃ k : Nat, k ≤ G.length ∧ i = .int .i64 k ∧ Hid (∀ j, j < k → gives t s a (G.getD j default) = false) ∧ Hid (Nx w wr)) (fun i _ => G.length - (intOf i).toNat)
  case atStart => exact ⟨0, by omega, rfl, hid (fun j hj => absurd hj (Nat.not_lt_zero _)), hid (Nx.refl _)⟩
  case round =>
    obtain ⟨k, hk, rfl, HM, HN⟩ := hrel
    by_cases h1 : k < G.length
    · obtain ⟨g, off, rfl, hcc⟩ := HC.out k h1
      have hcc := hcc.later HN.out
      have HV := hid (HS.out k h1)
      have HY : Hid (∀ b, gives t s a (G.getD k default) = b → gives t s a (G.getD k default) = b) := fun _ h => h
      obtain ⟨x, hx⟩ : ∃ x, x = G.getD k default := ⟨_, rfl⟩
      rw [← hx] at hcc HV
      have HX := hid hx
      clear hx HY
      obtain ⟨c0, c1, c2, c3⟩ := hcc
      have HL := hid (lit25 x bw ba t s a bo m d wr (by have := HV.out.1; omega) (by have := HV.out.2; omega) c3 (HN.out.cell H0.out) (HN.out.cell H1.out) (HN.out.cell H2.out) (HN.out.cell H3.out))
      clear c3
      obtain ⟨xt, xn, xo, c, L⟩ := x
      simp only at c0 c1 c2 HL
      generalize hb : gives t s a ⟨xt, xn, xo, c, L⟩ = b at HL
      have HB := hid hb
      clear hb
      go_wp2_with fail
      refine HL.out.mono ?_
      rintro e w' ⟨rfl, HN'⟩
      have HN2 := hid (HN.out.trans HN'.out)
      cases b with
      | true =>
        go_wp2_with fail
        go_ret
        refine ⟨⟨(k : Int), rfl, ?_⟩, HN2⟩
        have e := HB.out
        rw [HX.out] at e
        rw [any_hit h1 e]
        exact decide_eq_true (by omega)
      | false =>
        go_wp2_with fail
        go_roundw
        case rel =>
          refine ⟨k + 1, by omega, by go_num, hid (fun j hj => ?_), HN2⟩
          by_cases e : j = k
          · subst e
            rw [← HX.out]
            exact HB.out
          · exact HM.out j (by omega)
        case measure => simp [intOf]; omega
    · obtain rfl : k = G.length := by omega
      go_wp2_with fail
      go_ret
      refine ⟨⟨-1, rfl, ?_⟩, HN⟩
      rw [any_miss HM.out]
      rfl

theorem cf24 (ao : Option Addr) (G : List Gr) (cap : Nat) (bw ba : Nat) (t s a : ByteArray) (bo : Option Addr) (m d : Nat) (w : World) (h : Gs w ao G) (hG : G.length ≤ 1048576)
    (hs : ∀ k, k < G.length → (G.getD k default).nm.size ≤ 1048576 ∧ (G.getD k default).acts.length ≤ 1048576)
    (h0 : w.cell? ⟨bw, 0, none⟩ = some (.string t)) (h1 : w.cell? ⟨bw, 1, none⟩ = some (.string s)) (h2 : w.cell? ⟨bw, 2, none⟩ = some (.slice bo m d)) (h3 : w.cell? ⟨ba, 0, none⟩ = some (.string a)) :
    Calls Try.prog 24 #[.slice ao G.length cap, .func (.func 25) #[] #[.pointer (some ⟨bw, 0, none⟩), .pointer (some ⟨ba, 0, none⟩)]] w fun e w' => e = .returned (.bool (G.any (gives t s a))) ∧ Hid (Nx w w') := by
  have HI := hid (idx30 ao G cap bw ba t s a bo m d w h hG hs h0 h1 h2 h3)
  clear h h0 h1 h2 h3 hs
  go_enter Try.func24, Try.ntmps24
  go_wp2_with fail
  refine HI.out.mono ?_
  rintro e w' ⟨⟨r, rfl, hr⟩, HN⟩
  have HR := hid hr
  clear hr
  go_wp2_with fail
  go_ret
  exact ⟨ret_bool (by rw [← HR.out]), HN⟩

set_option maxHeartbeats 400000 in
theorem allow17 (ao : Option Addr) (G : List Gr) (cap : Nat) (t s : ByteArray) (bo : Option Addr) (A : List ByteArray) (d : Nat) (w : World) (h : Gs w ao G) (h' : Ss w bo A) (hG : G.length ≤ 1048576) (hA : A.length ≤ 1048576)
    (hs : ∀ k, k < G.length → (G.getD k default).nm.size ≤ 1048576 ∧ (G.getD k default).acts.length ≤ 1048576) :
    Calls Try.prog 17 #[.slice ao G.length cap, .agg #[.string t, .string s, .slice bo A.length d]] w fun e w' => e = .returned (.bool (decide (0 < A.length) && A.all (fun a => G.any (gives t s a)))) ∧ Hid (Nx w w') := by
  have HC := hid h
  have HA := hid h'
  have HS := hid hs
  clear h h' hs
  obtain ⟨w1, hw1⟩ : ∃ w1, w1 = w.alloc (.cells #[.string t, .string s, .slice bo A.length d] 26) := ⟨_, rfl⟩
  have HN1 : Hid (Nx w w1) := by rw [hw1]; exact Nx.alloc _ _
  have H0 : Hid (w1.cell? ⟨w.heap.size, 0, none⟩ = some (.string t)) := by rw [hw1]; unfold Hid World.cell?; rw [alloc_last]; rfl
  have H1 : Hid (w1.cell? ⟨w.heap.size, 1, none⟩ = some (.string s)) := by rw [hw1]; unfold Hid World.cell?; rw [alloc_last]; rfl
  have H2 : Hid (w1.cell? ⟨w.heap.size, 2, none⟩ = some (.slice bo A.length d)) := by rw [hw1]; unfold Hid World.cell?; rw [alloc_last]; rfl
  by_cases h0 : A.length = 0
  · have hnil : A = [] := List.eq_nil_of_length_eq_zero h0
    subst hnil
    go_enter Try.func17, Try.ntmps17
    go_wp2_with fail
    go_ret
    refine ⟨rfl, ?_⟩
    rw [hw1] at HN1
    exact HN1
  · have c0 : ((A.length : Int) == 0) = false := by rw [beq_eq_false_iff_ne]; omega
    go_enter Try.func17, Try.ntmps17
    go_wp2_with fail
    go_loopw [15] (fun i wr => ∃ k : Nat, k ≤ A.length ∧ i = .int .i64 k ∧ Hid (∀ j, j < k → G.any (gives t s (A.getD j ByteArray.empty)) = true) ∧ Hid (Nx w1 wr)) (fun i _ => A.length - (intOf i).toNat)
    case atStart => exact ⟨0, by omega, rfl, hid (fun j hj => absurd hj (Nat.not_lt_zero _)), hid (by rw [hw1]; exact Nx.refl _)⟩
    case round =>
      obtain ⟨k, hk, rfl, HM, HN⟩ := hrel
      by_cases h1 : k < A.length
      · obtain ⟨g, off, rfl, hc⟩ := (HA.out.later (HN1.out.trans HN.out)) k h1
        obtain ⟨y, hy⟩ : ∃ y, y = A.getD k ByteArray.empty := ⟨_, rfl⟩
        rw [← hy] at hc
        have HY := hid hy
        clear hy
        obtain ⟨w2, hw2⟩ : ∃ w2, w2 = wr.alloc (.cells #[.string y] 9) := ⟨_, rfl⟩
        have HN2 : Hid (Nx wr w2) := by rw [hw2]; exact Nx.alloc _ _
        have K3 : Hid (w2.cell? ⟨wr.heap.size, 0, none⟩ = some (.string y)) := by rw [hw2]; unfold Hid World.cell?; rw [alloc_last]; rfl
        have HL := hid (cf24 ao G cap w.heap.size wr.heap.size t s y (some ⟨g, off, none⟩) A.length d w2 (HC.out.later ((HN1.out.trans HN.out).trans HN2.out)) hG HS.out ((HN.out.trans HN2.out).cell H0.out) ((HN.out.trans HN2.out).cell H1.out) ((HN.out.trans HN2.out).cell H2.out) K3.out)
        generalize hb : G.any (gives t s y) = b at HL
        have HB := hid hb
        clear hb
        have HW2 := hid hw2
        clear hw2
        go_wp2_with fail
        rw [← HW2.out]
        refine HL.out.mono ?_
        rintro e w' ⟨rfl, HN'⟩
        have HN3 := hid ((HN.out.trans HN2.out).trans HN'.out)
        cases b with
        | false =>
          go_wp2_with fail
          go_ret
          refine ⟨ret_bool ?_, hid (HN1.out.trans HN3.out)⟩
          have e := HB.out
          rw [HY.out] at e
          rw [all_miss (f := fun a => G.any (gives t s a)) h1 e, Bool.and_false]
        | true =>
          go_wp2_with fail
          go_roundw
          case rel =>
            refine ⟨k + 1, by omega, by go_num, hid (fun j hj => ?_), HN3⟩
            by_cases e : j = k
            · subst e
              rw [← HY.out]
              exact HB.out
            · exact HM.out j (by omega)
          case measure => simp [intOf]; omega
      · obtain rfl : k = A.length := by omega
        go_wp2_with fail
        go_ret
        refine ⟨ret_bool ?_, hid (HN1.out.trans HN.out)⟩
        rw [all_hit HM.out, Bool.and_true]
        exact (decide_eq_true (by omega)).symm

end Go.Proofs.Qxb6600460a
