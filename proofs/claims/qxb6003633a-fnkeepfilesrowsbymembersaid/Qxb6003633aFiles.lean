import Derived.Test.Qxb6003633aJoin
namespace Go.Proofs.Qxb6003633a
open Go.RowKit Go.Maps
set_option linter.unusedVariables false

theorem KFrame.nx' {base : Nat} {w w' : World} (h : KFrame base w w') : Below base w w' := h.below
/-- what lay below base stands behind keep -/
theorem Cs.below {α : Type} {f : α → Value} {d : α} {w w' : World} {ao : Option Addr} {L : List α} {base : Nat} (h : Cs f d w ao L) (hb : Below base w w') (hlt : ∀ g off, ao = some ⟨g, off, none⟩ → g < base) : Cs f d w' ao L := by
  intro j hj
  obtain ⟨g, off, e, hc⟩ := h j hj
  exact ⟨g, off, e, (hb.cell (p := ⟨g, off + j, none⟩) (hlt g off e)).trans hc⟩
theorem Cs.lt {α : Type} {f : α → Value} {d : α} {w : World} {ao : Option Addr} {L : List α} (h : Cs f d w ao L) {j : Nat} (hj : j < L.length) : ∀ g off, ao = some ⟨g, off, none⟩ → g < w.heap.size := by
  intro g off e
  obtain ⟨g', off', e', hc⟩ := h j hj
  rw [e] at e'
  have := Option.some.inj e'
  injection this with h1 h2
  subst h1
  exact cell_lt hc
theorem Cs.kept {α : Type} {f : α → Value} {d : α} {w w1 w' : World} {ao : Option Addr} {L : List α} {base : Nat} (h : Cs f d w ao L) (hb0 : w.heap.size ≤ base) (h1 : Nx w w1) (hb : Below base w1 w') : Cs f d w' ao L := by
  intro j hj
  obtain ⟨g, off, e, hc⟩ := h j hj
  refine ⟨g, off, e, (hb.cell (p := ⟨g, off + j, none⟩) ?_).trans (h1.cell hc)⟩
  exact Nat.lt_of_lt_of_le (cell_lt hc) hb0

/-- all that the law reads behind keep -/
structure FAt (w : World) (x0 x1 x2 x3 x4 x5 : Option Addr) (gF W bm base p gr gu : Nat) (rt : Option Nat) (sv : Value) (svs : List Value) (names : List (List UInt8)) (sp : Sp) (M Li H R : List Int) (Ms : List ByteArray) (E : List Int) : Prop where
  c0 : Cs (Value.int .i32) 0 w x0 M
  c1 : Cs (Value.int .u32) 0 w x1 Li
  c2 : Cs (Value.int .i64) 0 w x2 H
  c3 : Cs (Value.int .i64) 0 w x3 R
  c4 : Cs Value.string ByteArray.empty w x4 Ms
  c5 : Cs (Value.int .i64) 0 w x5 E
  rf : RowF Value.bool w gF 4 (fillF Ms Ms.length)
  work : WorkAt w W bm base sv svs names sp
  part : PartAt w p gr gu (tvOf rt M.length) M Li H R rt.isNone Ms E
theorem FAt.later {w w' : World} {x0 x1 x2 x3 x4 x5 : Option Addr} {gF W bm base p gr gu : Nat} {rt : Option Nat} {sv : Value} {svs : List Value} {names : List (List UInt8)} {sp : Sp} {M Li H R : List Int} {Ms : List ByteArray} {E : List Int}
    (h : FAt w x0 x1 x2 x3 x4 x5 gF W bm base p gr gu rt sv svs names sp M Li H R Ms E) (hb : Nx w w') : FAt w' x0 x1 x2 x3 x4 x5 gF W bm base p gr gu rt sv svs names sp M Li H R Ms E :=
  ⟨h.c0.later hb, h.c1.later hb, h.c2.later hb, h.c3.later hb, h.c4.later hb, h.c5.later hb, later_block h.rf hb, h.work.later hb, h.part.later hb⟩

theorem span1 (gr : Nat) (rt : Option Nat) (fr d : Nat) : (spanOf gr rt fr (fr + d)).1 = .slice (cutA gr 3 fr (fr + d)) d d := by
  show Value.slice _ (fr + d - fr) (fr + d - fr) = _
  rw [Nat.add_sub_cancel_left]
theorem span2n (gr fr d : Nat) : (spanOf gr none fr (fr + d)).2 = .slice none 0 0 := rfl
theorem span2s (gr gt fr d : Nat) : (spanOf gr (some gt) fr (fr + d)).2 = .slice (cutA gt 1 fr (fr + d)) d d := by
  show Value.slice _ (fr + d - fr) (fr + d - fr) = _
  rw [Nat.add_sub_cancel_left]
theorem cutA_some (g size fr e : Nat) : (cutA g size fr e).isSome = true := by unfold cutA; split <;> rfl
theorem cutA_pos (g size fr d : Nat) (hd : 0 < d) : cutA g size fr (fr + d) = some ⟨g, fr * size, none⟩ := by unfold cutA; rw [if_neg (by omega)]
/-- where a run's rows lie -/
structure Here (names : List (List UInt8)) (sp : Sp) (b : List UInt8) (q : Value × Value) (rk bf rn : Nat) : Prop where
  place : placeOf names b = rk
  mem : names.contains b = true
  lt : rk < sp.length
  count : (sp.getD rk []).length = rn
  ltk : bf < (sp.getD rk []).length
  span : (sp.getD rk []).getD bf noSpan = q
theorem here_of {bs : Nat → List UInt8} {q : Nat → Value × Value} {k : Nat} {names : List (List UInt8)} {sp : Sp} (I : InvG bs q k names sp) {i f0 : Nat} (hi : i < k) (hf : f0 ≤ i) (hF : isF bs f0 = true) (he : bs f0 = bs i) :
    Here names sp (bs i) (q i) (dG bs f0) (cntG bs (bs i) i) (cntG bs (bs i) k) := by
  have hp : names.idxOf (bs i) = dG bs f0 := by rw [← he]; exact I.place f0 (by omega) hF
  have hm : bs i ∈ names := (I.mem _).2 ⟨i, hi, rfl⟩
  have hc := I.count i hi
  rw [hp] at hc
  refine ⟨hp, by simpa using hm, ?_, hc, ?_, ?_⟩
  · rw [I.slen, ← I.len, ← hp]; exact idxOf_lt hm
  · rw [hc]; exact cntG_lt bs hi
  · have := I.span i hi
    rw [hp] at this; exact this

set_option maxRecDepth 100000 in
set_option maxHeartbeats 4000000 in
theorem files_in (a0 a1 a2 a3 a4 a5 : Option Addr) (c0 c1 c2 c3 c4 c5 : Nat) (M Li H R : List Int) (Ms : List ByteArray) (E : List Int) (w : World)
    (C0 : Cs (Value.int .i32) 0 w a0 M) (C1 : Cs (Value.int .u32) 0 w a1 Li) (C2 : Cs (Value.int .i64) 0 w a2 H) (C3 : Cs (Value.int .i64) 0 w a3 R) (C4 : Cs Value.string ByteArray.empty w a4 Ms) (C5 : Cs (Value.int .i64) 0 w a5 E)
    (hE : ∀ k, -9223372036854775808 ≤ E.getD k 0 ∧ E.getD k 0 ≤ 9223372036854775807)
    (b0 : M.length ≤ 9223372036854775807) (b1 : Li.length ≤ 9223372036854775807) (b2 : H.length ≤ 9223372036854775807) (b3 : R.length ≤ 9223372036854775807) (b4 : Ms.length ≤ 9223372036854775807) (b5 : E.length ≤ 9223372036854775807) :
    Calls Try.prog 7 #[.slice a0 M.length c0, .slice a1 Li.length c1, .slice a2 H.length c2, .slice a3 R.length c3, .slice a4 Ms.length c4, .slice a5 E.length c5] w fun e w' => e = .returned (.bool true) ∧ Below w.heap.size w w' := by
  have HB := hid (bytes19 a0 a1 a2 a3 a4 a5 M.length Li.length H.length R.length E.length c0 c1 c2 c3 c4 c5 Ms w C4 b0 b1 b2 b3 b4 b5)
  have HFI := hid (fits20 a0 a1 a2 a3 a4 a5 M.length Li.length H.length R.length c0 c1 c2 c3 c4 c5 Ms E w C4 C5 hE b0 b1 b2 b3 b4 b5)
  have HC0 := hid C0; have HC1 := hid C1; have HC2 := hid C2; have HC3 := hid C3; have HC4 := hid C4; have HC5 := hid C5
  clear C0 C1 C2 C3 C4 C5 hE b0 b1 b2 b3 b4 b5
  go_enter Try.func7, Try.ntmps7
  go_wp2_with fail
  refine HB.out.mono ?_
  rintro e w' ⟨⟨b, rfl⟩, rfl⟩
  cases b
  · clear HFI HC0 HC1 HC2 HC3 HC4 HC5 HB
    go_wp2_with fail
    go_ret
    exact ⟨rfl, Below.refl _ _⟩
  clear HB
  go_wp2_with fail
  refine HFI.out.mono ?_
  rintro e w0 ⟨hfo, hw0⟩
  subst hw0
  rcases hfo with rfl | ⟨rfl, hfit⟩
  · clear HFI HC0 HC1 HC2 HC3 HC4 HC5
    go_wp2_with fail
    go_ret
    exact ⟨rfl, Below.refl _ _⟩
  clear HFI
  have HF := hid hfit; clear hfit
  have l0 := HF.out.small
  have l1 : Li.length ≤ 262144 := by rw [HF.out.lines]; exact l0
  have l2 : H.length ≤ 262144 := by rw [HF.out.hours]; exact l0
  have l3 : R.length ≤ 131072 := HF.out.rsmall
  have l4 := HF.out.few
  have l5 : E.length ≤ 4096 := by rw [HF.out.ends]; exact l4
  go_wp2_with fail
  refine (clone21 _ M _ _ HC0.out (by omega)).mono ?_
  rintro e w1 ⟨x0, d0, rfl, m0, u0, v0, HD0, HN1⟩
  go_wp2_with fail
  refine (clone22 _ Li _ _ (HC1.out.later HN1.out) (by omega)).mono ?_
  rintro e w2b ⟨x1, d1, rfl, m1, u1, v1, HD1, HN2⟩
  go_wp2_with fail
  refine (clone23 _ H _ _ (HC2.out.later (HN1.out.trans HN2.out)) (by omega)).mono ?_
  rintro e w3 ⟨x2, d2, rfl, m2, u2, v2, HD2, HN3⟩
  go_wp2_with fail
  refine (clone23 _ R _ _ (HC3.out.later ((HN1.out.trans HN2.out).trans HN3.out)) (by omega)).mono ?_
  rintro e w4 ⟨x3, d3, rfl, m3, u3, v3, HD3, HN4⟩
  go_wp2_with fail
  refine (clone24 _ Ms _ _ (HC4.out.later (((HN1.out.trans HN2.out).trans HN3.out).trans HN4.out)) (by omega)).mono ?_
  rintro e w5 ⟨x4, d4, rfl, m4, u4, v4, HD4, HN5⟩
  go_wp2_with fail
  refine (clone25 _ E _ _ (HC5.out.later ((((HN1.out.trans HN2.out).trans HN3.out).trans HN4.out).trans HN5.out)) (by omega)).mono ?_
  rintro e w6 ⟨x5, d5, rfl, m5, u5, v5, HD5, HN6⟩
  have HN : Hid (Nx w0 w6) := ((((HN1.out.trans HN2.out).trans HN3.out).trans HN4.out).trans HN5.out).trans HN6.out
  have D0 := hid (HD0.out.later ((((HN2.out.trans HN3.out).trans HN4.out).trans HN5.out).trans HN6.out))
  have D1 := hid (HD1.out.later (((HN3.out.trans HN4.out).trans HN5.out).trans HN6.out))
  have D2 := hid (HD2.out.later ((HN4.out.trans HN5.out).trans HN6.out))
  have D3 := hid (HD3.out.later (HN5.out.trans HN6.out))
  have D4 := hid (HD4.out.later HN6.out)
  have D5 := HD5
  clear HC0 HC1 HC2 HC3 HC4 HC5 HD0 HD1 HD2 HD3 HD4 HD5 HN1 HN2 HN3 HN4 HN5 HN6
  go_wp2_with fail
  refine (newWork w6).mono ?_
  rintro e w7 ⟨rfl, hw7⟩
  have HWN : Hid (WorkAt w7 (w6.heap.size + 1) w6.heap.size w6.heap.size (.slice none 0 0) [] [] []) := by rw [hw7]; exact work_new w6
  have HN7 : Hid (Nx w6 w7) := by rw [hw7]; exact (Nx.alloc _ _).trans (Nx.alloc _ _)
  clear hw7
  obtain ⟨base, hbase⟩ : ∃ base, base = w6.heap.size := ⟨_, rfl⟩
  rw [← hbase] at HWN ⊢
  have HBA := hid hbase; clear hbase
  go_wp2_with fail
  refine (part28 x0 x1 x2 x3 x4 x5 d0 d1 d2 d3 d4 d5 M Li H R Ms E w7 (D0.out.later HN7.out) (D1.out.later HN7.out) (D2.out.later HN7.out) (D3.out.later HN7.out) (D4.out.later HN7.out) (D5.out.later HN7.out) l0 HF.out.lines HF.out.hours (fun h => HF.out.rates (by rw [← m3]; exact h)) HF.out.ends l4).mono ?_
  rintro e w8 ⟨p, gr, gu, rt, rfl, HPT, hrt, HN8⟩
  go_wp2_with fail
  refine (keep27 (base + 1) p base base gr gu rt (.slice none 0 0) [] ([], []) M Li H R Ms E w8 0 (HWN.out.later HN8.out) HPT.out HF.out.ends HF.out.ok l0 l4 HF.out.short bd_new (by omega)).mono ?_
  rintro e w9 ⟨rfl, sv, svs, HW9, HK9⟩
  have hb6 : w6.heap.size ≤ base := by rw [HBA.out]; exact Nat.le_refl _
  have HN68 := hid (HN7.out.trans HN8.out)
  have F0 := hid (D0.out.kept hb6 HN68.out HK9.out.below)
  have F1 := hid (D1.out.kept hb6 HN68.out HK9.out.below)
  have F2 := hid (D2.out.kept hb6 HN68.out HK9.out.below)
  have F3 := hid (D3.out.kept hb6 HN68.out HK9.out.below)
  have F4 := hid (D4.out.kept hb6 HN68.out HK9.out.below)
  have F5 := hid (D5.out.kept hb6 HN68.out HK9.out.below)
  have HP9 := hid (HPT.out.framed HK9.out)
  have HN9 : Hid (Below w0.heap.size w0 w9) := Below.trans (HN.out.trans HN68.out) (HK9.out.below.mono (by rw [HBA.out]; exact HN.out.size))
  have hrt2 : rt.isNone = x3.isNone := by rw [hrt]
  clear D0 D1 D2 D3 D4 D5 HPT HWN HN7 HN8 HN68 HK9 hb6 HN HBA hrt
  go_wp2_with fail
  refine (firsts29 x4 d4 Ms w9 F4.out l4).mono ?_
  rintro e w10 ⟨gF, rfl, HRF, HN10⟩
  have HA := hid (FAt.mk (F0.out.later HN10.out) (F1.out.later HN10.out) (F2.out.later HN10.out) (F3.out.later HN10.out) (F4.out.later HN10.out) (F5.out.later HN10.out) HRF.out (HW9.out.later HN10.out) (HP9.out.later HN10.out))
  have HBL : Hid (Below w0.heap.size w0 w10) := HN9.out.trans (HN10.out.mono HN9.out.size)
  clear F0 F1 F2 F3 F4 F5 HP9 HW9 HN9 HN10 HRF
  have HINV := hid (invG (bOf Ms) (fun k => spanOf gr rt (fromAt E k) (endAt E k)) Ms.length)
  rw [← stK_stG] at HINV
  generalize stK ([], []) gr rt Ms E Ms.length = stf at HINV HA
  obtain ⟨names, sp⟩ := stf
  replace HA : Hid (FAt w10 x0 x1 x2 x3 x4 x5 gF (base + 1) base base p gr gu rt sv svs names sp M Li H R Ms E) := HA
  have HI : Hid (InvG (bOf Ms) (fun k => spanOf gr rt (fromAt E k) (endAt E k)) Ms.length names sp) := HINV
  have hlS : sp.length = dTo Ms Ms.length := by rw [dTo_dG]; exact HI.out.slen
  have hlN : names.length = dTo Ms Ms.length := by rw [dTo_dG]; exact HI.out.len
  clear HINV
  go_wp2_with fail
  refine (spans30 HA.out.work).mono ?_
  rintro e w11 ⟨rfl, rfl⟩
  rw [hlS]
  go_wp2_with fail
  refine (members31 HA.out.work).mono ?_
  rintro e w11 ⟨rfl, rfl⟩
  rw [hlN]
  have HLS := hid hlS; have HLN := hid hlN
  clear hlS hlN
  go_wp2_with fail
  clear HLS HLN m0 m1 m2 m4 m5
  go_loopw [16, 17] (fun fr i wr => ∃ k : Nat, k ≤ Ms.length ∧ i = .int .i64 k ∧ fr = .int .i64 (fromAt E k : Int) ∧ Hid (FAt wr x0 x1 x2 x3 x4 x5 gF (base + 1) base base p gr gu rt sv svs names sp M Li H R Ms E) ∧ Hid (Below w0.heap.size w0 wr)) (fun _ i _ => Ms.length - (intOf i).toNat)
  case atStart => exact ⟨0, by omega, rfl, rfl, HA, HBL⟩
  case round =>
    obtain ⟨k, hk, rfl, rfl, HB, HL⟩ := hrel
    clear HA HBL
    by_cases h1 : k < Ms.length
    · have hk0 : (0 : Int) ≤ (k : Int) := by omega
      have hk1 : (k : Int) < (Ms.length : Int) := by omega
      obtain ⟨f0, hf0, hF, hbf, hno⟩ := first_of (bOf Ms) k
      have HH := hid (here_of HI.out h1 hf0 hF hbf)
      have HBF := hid hbf
      have HNO := hid hno
      clear hno hbf hF
      obtain ⟨g4, o4, hx4, hck⟩ := HB.out.c4 k h1
      subst hx4
      have HCJ : Hid (∀ j, j < Ms.length → wr.cell? ⟨g4, o4 + j, none⟩ = some (Value.string (Ms.getD j ByteArray.empty))) := by
        intro j hj
        obtain ⟨g, o, e, hc⟩ := HB.out.c4 j hj
        have e' := Option.some.inj e
        injection e' with e1 e2
        subst e1 e2
        exact hc
      clear hck
      go_wp2_with fail
      generalize hw1 : wr = w1 at *
      clear hw1
      go_loopw [18, 19, 20, 21] (fun fa bf rn i wr => ∃ (j q bn cn : Nat) (fv : Int), j ≤ Ms.length ∧ i = .int .i64 j ∧ fa = .int .i64 fv ∧ bf = .int .i64 bn ∧ rn = .int .i64 cn ∧ bn ≤ j ∧ cn ≤ j ∧ Hid (wr = w1.drewN q) ∧ (j ≤ f0 → fv = -1) ∧ (f0 < j → fv = f0) ∧ Hid (cn = cntG (bOf Ms) (bOf Ms k) j) ∧ Hid (bn = cntG (bOf Ms) (bOf Ms k) (min j k))) (fun _ _ _ i _ => Ms.length - (intOf i).toNat)
      case atStart => exact ⟨0, 0, 0, 0, -1, by omega, rfl, rfl, rfl, rfl, by omega, by omega, rfl, fun _ => rfl, fun h => by omega, rfl, by rw [Nat.zero_min]; rfl⟩
      case round =>
        obtain ⟨j, q, bn, cn, fv, hj, rfl, rfl, rfl, rfl, hbn, hcn, HW, hv1, hv2, HC, HBN⟩ := hrel
        by_cases h2 : j < Ms.length
        · have hj0 : (0 : Int) ≤ (j : Int) := by omega
          have hj1 : (j : Int) < (Ms.length : Int) := by omega
          have hx1 : wr.cell? ⟨g4, o4 + j, none⟩ = some (Value.string (Ms.getD j ByteArray.empty)) := by rw [HW.out]; exact HCJ.out j (by omega)
          have hx2 : wr.cell? ⟨g4, o4 + k, none⟩ = some (Value.string (Ms.getD k ByteArray.empty)) := by rw [HW.out]; exact HCJ.out k h1
          by_cases he : bOf Ms j = bOf Ms k
          · have hbe : ((Ms.getD j ByteArray.empty).toList == (Ms.getD k ByteArray.empty).toList) = true := by
              rw [ByteArray.toList_eq, ByteArray.toList_eq]; exact beq_iff_eq.2 he
            have hjf : f0 ≤ j := Nat.le_of_not_lt fun h => HNO.out j h he
            have HE := hid he; clear he
            have HC1 : Hid (cn + 1 = cntG (bOf Ms) (bOf Ms k) (j + 1)) := by show _ = _; simp only [cntG, HE.out, if_true, HC.out]
            have HB1 : j < k → Hid (bn + 1 = cntG (bOf Ms) (bOf Ms k) (min (j + 1) k)) := by
              intro h; show _ = _
              have e1 : min (j + 1) k = j + 1 := by omega
              have e2 : min j k = j := by omega
              have := HBN.out
              rw [e2] at this
              rw [e1]; simp only [cntG, HE.out, if_true, this]
            have HB2 : ¬ j < k → Hid (bn = cntG (bOf Ms) (bOf Ms k) (min (j + 1) k)) := by
              intro h; show _ = _
              have e1 : min (j + 1) k = k := by omega
              have e2 : min j k = k := by omega
              have := HBN.out
              rw [e2] at this
              rw [e1]; exact this
            clear HBN HC
            generalize Ms.getD j ByteArray.empty = x at *
            generalize Ms.getD k ByteArray.empty = y at *
            rcases Nat.lt_or_eq_of_le hjf with h3 | h3
            · have hv := hv2 h3
              clear hv1 hv2
              subst hv
              by_cases h4 : j < k
              · have HB3 := HB1 h4
                clear HB1 HB2
                go_wp2
                go_quiet (fail)
                go_wp2
                go_roundw
                case rel => exact ⟨j + 1, q + nq, bn + 1, cn + 1, f0, by omega, by go_num, rfl, by go_num, by go_num, by omega, by omega, by show _ = _; rw [HW.out, World.drewN_drewN], fun h => by omega, fun h => by omega, HC1, HB3⟩
                case measure => simp [intOf]; omega
              · have HB3 := HB2 h4
                have h5 : k ≤ j := by omega
                clear HB1 HB2 h4
                go_wp2
                go_quiet (fail)
                go_wp2
                go_roundw
                case rel => exact ⟨j + 1, q + nq, bn, cn + 1, f0, by omega, by go_num, rfl, rfl, by go_num, by omega, by omega, by show _ = _; rw [HW.out, World.drewN_drewN], fun h => by omega, fun h => by omega, HC1, HB3⟩
                case measure => simp [intOf]; omega
            · have hv := hv1 (by omega)
              clear hv1 hv2 hjf
              subst hv
              subst h3
              by_cases h4 : f0 < k
              · have HB3 := HB1 h4
                clear HB1 HB2
                go_wp2
                go_quiet (fail)
                go_wp2
                go_roundw
                case rel => exact ⟨f0 + 1, q + nq, bn + 1, cn + 1, f0, by omega, by go_num, rfl, by go_num, by go_num, by omega, by omega, by show _ = _; rw [HW.out, World.drewN_drewN], fun h => by omega, fun h => by omega, HC1, HB3⟩
                case measure => simp [intOf]; omega
              · have HB3 := HB2 h4
                have h5 : k ≤ f0 := by omega
                clear HB1 HB2 h4
                go_wp2
                go_quiet (fail)
                go_wp2
                go_roundw
                case rel => exact ⟨f0 + 1, q + nq, bn, cn + 1, f0, by omega, by go_num, rfl, rfl, by go_num, by omega, by omega, by show _ = _; rw [HW.out, World.drewN_drewN], fun h => by omega, fun h => by omega, HC1, HB3⟩
                case measure => simp [intOf]; omega
          · have hbe : ((Ms.getD j ByteArray.empty).toList == (Ms.getD k ByteArray.empty).toList) = false := by
              rw [ByteArray.toList_eq, ByteArray.toList_eq]; exact beq_eq_false_iff_ne.2 he
            have hjf : f0 ≠ j := fun h => he (by rw [← h]; exact HBF.out)
            have hne : f0 < j + 1 → f0 < j := fun h => by omega
            have hjk : j ≠ k := fun h => he (by rw [h])
            have HC1 : Hid (cn = cntG (bOf Ms) (bOf Ms k) (j + 1)) := by show _ = _; simp only [cntG, he, if_false, HC.out]; rfl
            have HB3 : Hid (bn = cntG (bOf Ms) (bOf Ms k) (min (j + 1) k)) := by
              show _ = _
              have := HBN.out
              rcases Nat.lt_or_gt_of_ne hjk with h | h
              · have e1 : min (j + 1) k = j + 1 := by omega
                have e2 : min j k = j := by omega
                rw [e2] at this
                rw [e1]; simp only [cntG, he, if_false, this]; rfl
              · have e1 : min (j + 1) k = k := by omega
                have e2 : min j k = k := by omega
                rw [e2] at this
                rw [e1]; exact this
            clear HBN HC he hjk hjf
            have HV1 := hid hv1; have HV2 := hid hv2; have HNE := hid hne
            clear hv1 hv2 hne
            generalize Ms.getD j ByteArray.empty = x at *
            generalize Ms.getD k ByteArray.empty = y at *
            go_wp2
            go_quiet (fail)
            go_wp2
            go_roundw
            case rel => exact ⟨j + 1, q + nq, bn, cn, fv, by omega, by go_num, rfl, rfl, rfl, by omega, by omega, by show _ = _; rw [HW.out, World.drewN_drewN], fun h => HV1.out (by omega), fun h => HV2.out (HNE.out h), HC1, HB3⟩
            case measure => simp [intOf]; omega
        · obtain rfl : j = Ms.length := by omega
          have hv := hv2 (by omega)
          subst hv
          have ebn : bn = cntG (bOf Ms) (bOf Ms k) k := by rw [HBN.out, Nat.min_eq_right (Nat.le_of_lt h1)]
          have HH2 : Hid (Here names sp (bOf Ms k) (spanOf gr rt (fromAt E k) (endAt E k)) (dTo Ms f0) bn cn) := by
            show Here _ _ _ _ _ _ _
            rw [dTo_dG, ebn, HC.out]; exact HH.out
          have HB2 : Hid (FAt wr x0 x1 x2 x3 (some ⟨g4, o4, none⟩) x5 gF (base + 1) base base p gr gu rt sv svs names sp M Li H R Ms E) := by
            rw [HW.out]; exact HB.out.later (Nx.drewN _ _)
          have HL2 : Hid (Below w0.heap.size w0 wr) := by
            rw [HW.out]; exact HL.out.trans ⟨rfl, rfl, rfl, Nat.le_refl _, fun _ _ => rfl⟩
          clear HH HB HL HC HBN HW hv1 hv2 ebn HCJ HBF HNO h2 hj
          go_wp2_with fail
          generalize hw3 : wr = w3 at *
          clear hw3
          go_loopw [22, 23] (fun rk i wr => ∃ j : Nat, j ≤ f0 ∧ i = .int .i64 j ∧ rk = .int .i64 (dTo Ms j : Int) ∧ Hid (wr = w3)) (fun _ i _ => f0 - (intOf i).toNat)
          case atStart => exact ⟨0, by omega, rfl, rfl, rfl⟩
          case round =>
            obtain ⟨j, hj, rfl, rfl, HW⟩ := hrel
            by_cases h2 : j < f0
            · have hj0 : (0 : Int) ≤ (j : Int) := by omega
              have hj1 : (j : Int) < (Ms.length : Int) := by omega
              have hcell : wr.cell? ⟨gF, j, none⟩ = some (.bool (isFirst Ms j)) := by
                rw [HW.out]
                have := HB2.out.rf.cell false j (by rw [fillF_len]; omega)
                rw [fillF_at Ms Ms.length j (by omega) (by omega)] at this
                exact this
              have hdl := dTo_le Ms j
              cases hf : isFirst Ms j with
              | true =>
                rw [hf] at hcell
                have HD : Hid (dTo Ms (j + 1) = dTo Ms j + 1) := by show _ = _; simp [dTo, hf]
                clear hf
                go_wp2
                go_roundw
                case rel => exact ⟨j + 1, by omega, by go_num, by rw [HD.out]; go_num, HW⟩
                case measure => simp [intOf]; omega
              | false =>
                rw [hf] at hcell
                have HD : Hid (dTo Ms (j + 1) = dTo Ms j) := by show _ = _; simp [dTo, hf]
                clear hf
                go_wp2
                go_roundw
                case rel => exact ⟨j + 1, by omega, by go_num, by rw [HD.out], HW⟩
                case measure => simp [intOf]; omega
            · obtain rfl : j = f0 := by omega
              rw [← HW.out] at HB2 HL2
              have HB := HB2; have HL := HL2
              clear HB2 HL2 HW
              generalize hw4 : wr = w4 at *
              clear hw4 hj h2
              have hdl := dTo_le Ms j
              generalize dTo Ms j = rk at *
              have hkE : k < E.length := by rw [HF.out.ends]; exact h1
              obtain ⟨he1, _, he3, he4, he5⟩ := ends_nat HF.out.ok k hkE
              have HE5 := hid he5; clear he5
              obtain ⟨g5, o5, hx5, hc5⟩ := HB.out.c5 k hkE
              subst hx5
              rw [he1] at hc5
              clear he1
              have hkE0 : (k : Int) < (E.length : Int) := by omega
              obtain ⟨d, hd⟩ : ∃ d, endAt E k = fromAt E k + d := ⟨endAt E k - fromAt E k, by omega⟩
              rw [hd] at HE5 hc5 he4 HH2
              clear hd he3 hkE
              have hfr1 : fromAt E k + d ≤ 262144 := by omega
              have HHE : Hid (fromAt E (k + 1) = fromAt E k + d) := HE5
              clear HE5
              generalize hfr : fromAt E k = fr at *
              clear hfr
              obtain ⟨g4', o4', hx4', hck⟩ := HB.out.c4 k h1
              have e' := Option.some.inj hx4'
              injection e' with e1 e2
              subst e1 e2
              clear hx4'
              have HSZ : Hid ((Ms.getD k ByteArray.empty).size ≤ maxLen) := Nat.le_trans (HF.out.short k h1) (by decide)
              unfold bOf at HH2
              generalize Ms.getD k ByteArray.empty = y at *
              go_wp2_with fail
              refine (place32 HB.out.work y HSZ.out HH2.out.mem).mono ?_
              rintro e w5 ⟨rfl, hw5⟩
              subst hw5
              rw [HH2.out.place]
              go_wp2_with fail
              refine (runs33 HB.out.work rk HH2.out.lt).mono ?_
              rintro e w5 ⟨rfl, hw5⟩
              subst hw5
              rw [HH2.out.count]
              go_wp2_with fail
              refine (runLen34 HB.out.work rk bn HH2.out.lt HH2.out.ltk _ d d (by rw [HH2.out.span, span1])).mono ?_
              rintro e w5 ⟨rfl, hw5⟩
              subst hw5
              have hq := run_neq_slice_nil_any (P := Try.prog) (t := 42) (e := 2) (h := Try.underlying42)
              have HQ := hid hq; clear hq
              cases rt with
              | none =>
                obtain rfl : x3 = none := by cases x3 with | none => rfl | some y => cases hrt2
                clear hrt2
                go_wp2_with fail
                refine (hasRates35 HB.out.work rk bn HH2.out.lt HH2.out.ltk none 0 0 (by rw [HH2.out.span, span2n])).mono ?_
                rintro e w5 ⟨rfl, hw5⟩
                subst hw5
                have hs : (none : Option Addr).isSome = false := rfl
                rw [hs]
                have hq : ∀ (w : World) (n c n' c' : Nat), Sem.run Try.prog (binOp BinOp.neq 42 (Value.slice none n c) (Value.slice none n' c')) w = Result.ok (Value.bool false) w := fun w n c n' c' => HQ.out w none n c n' c'
                go_wp2_with fail
                clear hq
                go_loopw [27] (fun i wr => ∃ J : Nat, fr ≤ J ∧ J ≤ fr + d ∧ i = .int .i64 J ∧ Hid (FAt wr x0 x1 x2 none (some ⟨g4, o4, none⟩) (some ⟨g5, o5, none⟩) gF (base + 1) base base p gr gu none sv svs names sp M Li H R Ms E) ∧ Hid (Below w0.heap.size w0 wr)) (fun i _ => fr + d - (intOf i).toNat)
                case atStart => exact ⟨fr, by omega, by omega, rfl, HB, HL⟩
                case round =>
                  obtain ⟨J, hJ1, hJ2, rfl, HB3, HL3⟩ := hrel
                  clear HB HL
                  by_cases h2 : J < fr + d
                  · obtain ⟨t, hJ⟩ : ∃ t, J = fr + t := ⟨J - fr, by omega⟩
                    have HJT := hid (show (J : Int) - (fr : Int) = (t : Int) by omega)
                    have ht : t < d := by omega
                    have HJ := hid hJ; clear hJ
                    have HR3 := hid (HB3.out.part.rows J (by omega))
                    go_wp2_with fail
                    rw [HJT.out]
                    refine (row37 HB3.out.work rk bn t HH2.out.lt HH2.out.ltk gr (fr * 3) d d (by rw [HH2.out.span, span1, cutA_pos gr 3 fr d (by omega)]) ht (M.getD J 0) (Li.getD J 0) (H.getD J 0) (by rw [← Nat.add_mul, ← HJ.out]; exact HR3.out.1) (by rw [← Nat.add_mul, ← HJ.out]; exact HR3.out.2.1) (by rw [← Nat.add_mul, ← HJ.out]; exact HR3.out.2.2)).mono ?_
                    rintro e w6a ⟨rfl, HNR⟩
                    have HB4 := hid (HB3.out.later HNR.out)
                    have HL4 : Hid (Below w0.heap.size w0 w6a) := HL3.out.trans (HNR.out.mono HL3.out.size)
                    clear HB3 HL3 HNR HR3
                    have hJL : J < Li.length := by rw [HF.out.lines]; omega
                    have hJH : J < H.length := by rw [HF.out.hours]; omega
                    obtain ⟨ga, oa, hxa, hca⟩ := HB4.out.c0 J (by omega)
                    obtain ⟨gb, ob, hxb, hcb⟩ := HB4.out.c1 J hJL
                    obtain ⟨gc, oc, hxc, hcc⟩ := HB4.out.c2 J hJH
                    subst hxa hxb hxc
                    have hJ0 : (0 : Int) ≤ (J : Int) := by omega
                    have hJM1 : (J : Int) < (M.length : Int) := by omega
                    have hJL1 : (J : Int) < (Li.length : Int) := by omega
                    have hJH1 : (J : Int) < (H.length : Int) := by omega
                    have hq : ∀ (w : World) (n c n' c' : Nat), Sem.run Try.prog (binOp BinOp.neq 42 (Value.slice none n c) (Value.slice none n' c')) w = Result.ok (Value.bool false) w := fun w n c n' c' => HQ.out w none n c n' c'
                    go_wp2_with fail
                    go_quiet (fail)
                    clear hq
                    have HB5 := hid (HB4.out.later (Nx.drewN w6a nq))
                    have HL5 : Hid (Below w0.heap.size w0 (w6a.drewN nq)) := HL4.out.trans ⟨rfl, rfl, rfl, Nat.le_refl _, fun _ _ => rfl⟩
                    clear HB4 HL4 hca hcb hcc
                    go_wp2_with fail
                    go_roundw
                    case rel => exact ⟨J + 1, by omega, by omega, by go_num, HB5, HL5⟩
                    case measure => simp [intOf]; omega
                  · obtain rfl : J = fr + d := by omega
                    go_wp2_with fail
                    go_roundw
                    case rel => exact ⟨k + 1, by omega, by go_num, by rw [HHE.out]; rfl, HB3, HL3⟩
                    case measure => simp [intOf]; omega
              | some gt =>
                obtain ⟨y3, rfl⟩ : ∃ y3, x3 = some y3 := by cases x3 with | none => cases hrt2 | some y => exact ⟨y, rfl⟩
                clear hrt2
                go_wp2_with fail
                refine (hasRates35 HB.out.work rk bn HH2.out.lt HH2.out.ltk _ d d (by rw [HH2.out.span, span2s])).mono ?_
                rintro e w5 ⟨rfl, hw5⟩
                subst hw5
                rw [cutA_some]
                have hq : ∀ (w : World) (n c n' c' : Nat), Sem.run Try.prog (binOp BinOp.neq 42 (Value.slice (some y3) n c) (Value.slice none n' c')) w = Result.ok (Value.bool true) w := fun w n c n' c' => HQ.out w (some y3) n c n' c'
                go_wp2_with fail
                refine (ratesLen36 HB.out.work rk bn HH2.out.lt HH2.out.ltk _ d d (by rw [HH2.out.span, span2s])).mono ?_
                rintro e w5 ⟨rfl, hw5⟩
                subst hw5
                go_wp2_with fail
                clear hq
                go_loopw [27] (fun i wr => ∃ J : Nat, fr ≤ J ∧ J ≤ fr + d ∧ i = .int .i64 J ∧ Hid (FAt wr x0 x1 x2 (some y3) (some ⟨g4, o4, none⟩) (some ⟨g5, o5, none⟩) gF (base + 1) base base p gr gu (some gt) sv svs names sp M Li H R Ms E) ∧ Hid (Below w0.heap.size w0 wr)) (fun i _ => fr + d - (intOf i).toNat)
                case atStart => exact ⟨fr, by omega, by omega, rfl, HB, HL⟩
                case round =>
                  obtain ⟨J, hJ1, hJ2, rfl, HB3, HL3⟩ := hrel
                  clear HB HL
                  by_cases h2 : J < fr + d
                  · obtain ⟨t, hJ⟩ : ∃ t, J = fr + t := ⟨J - fr, by omega⟩
                    have HJT := hid (show (J : Int) - (fr : Int) = (t : Int) by omega)
                    have ht : t < d := by omega
                    have HJ := hid hJ; clear hJ
                    have HR3 := hid (HB3.out.part.rows J (by omega))
                    go_wp2_with fail
                    rw [HJT.out]
                    refine (row37 HB3.out.work rk bn t HH2.out.lt HH2.out.ltk gr (fr * 3) d d (by rw [HH2.out.span, span1, cutA_pos gr 3 fr d (by omega)]) ht (M.getD J 0) (Li.getD J 0) (H.getD J 0) (by rw [← Nat.add_mul, ← HJ.out]; exact HR3.out.1) (by rw [← Nat.add_mul, ← HJ.out]; exact HR3.out.2.1) (by rw [← Nat.add_mul, ← HJ.out]; exact HR3.out.2.2)).mono ?_
                    rintro e w6a ⟨rfl, HNR⟩
                    have HB4 := hid (HB3.out.later HNR.out)
                    have HL4 : Hid (Below w0.heap.size w0 w6a) := HL3.out.trans (HNR.out.mono HL3.out.size)
                    clear HB3 HL3 HNR HR3
                    have hJL : J < Li.length := by rw [HF.out.lines]; omega
                    have hJH : J < H.length := by rw [HF.out.hours]; omega
                    obtain ⟨ga, oa, hxa, hca⟩ := HB4.out.c0 J (by omega)
                    obtain ⟨gb, ob, hxb, hcb⟩ := HB4.out.c1 J hJL
                    obtain ⟨gc, oc, hxc, hcc⟩ := HB4.out.c2 J hJH
                    subst hxa hxb hxc
                    have hJ0 : (0 : Int) ≤ (J : Int) := by omega
                    have hJM1 : (J : Int) < (M.length : Int) := by omega
                    have hJL1 : (J : Int) < (Li.length : Int) := by omega
                    have hJH1 : (J : Int) < (H.length : Int) := by omega
                    have hJR : J < R.length := by rw [HF.out.rates (by rw [← m3]; rfl)]; omega
                    obtain ⟨g3, o3, hx3, hc3⟩ := HB4.out.c3 J hJR
                    have hx3 := Option.some.inj hx3
                    subst hx3
                    have hJR1 : (J : Int) < (R.length : Int) := by omega
                    have hq : ∀ (w : World) (n c n' c' : Nat), Sem.run Try.prog (binOp BinOp.neq 42 (Value.slice (some ⟨g3, o3, none⟩) n c) (Value.slice none n' c')) w = Result.ok (Value.bool true) w := fun w n c n' c' => HQ.out w (some ⟨g3, o3, none⟩) n c n' c'
                    have HR38 : Hid (∀ q, Calls Try.prog 38 #[.pointer (some ⟨base + 1, 0, none⟩), .int .i64 rk, .int .i64 bn, .int .i64 ((J : Int) - (fr : Int))] (w6a.drewN q) fun e w' => e = .returned (.int .i64 (R.getD J 0)) ∧ w' = w6a.drewN q) := by
                      intro q
                      rw [HJT.out]
                      refine rate38 (HB4.out.later (Nx.drewN _ _)).work rk bn t HH2.out.lt HH2.out.ltk gt (fr * 1) d d (by rw [HH2.out.span, span2s, cutA_pos gt 1 fr d (by omega)]) ht _ ?_
                      rw [Nat.mul_one, ← HJ.out]
                      rcases HB4.out.part.rates with ⟨h, _⟩ | ⟨_, gt', h, _, hcs⟩
                      · cases h
                      · injection h with h _ _
                        injection h with h
                        injection h with h _ _
                        subst h
                        obtain ⟨g, o, e, hc⟩ := hcs J hJR
                        have e := Option.some.inj e
                        injection e with e1 e2
                        subst e1 e2
                        rw [Nat.zero_add] at hc
                        exact hc
                    go_wp2_with fail
                    go_quiet ((go_at_call 38; exact Calls.quiet_of_same (HR38.out _)))
                    clear hq
                    have HB5 := hid (HB4.out.later (Nx.drewN w6a nq))
                    have HL5 : Hid (Below w0.heap.size w0 (w6a.drewN nq)) := HL4.out.trans ⟨rfl, rfl, rfl, Nat.le_refl _, fun _ _ => rfl⟩
                    clear HB4 HL4 hca hcb hcc
                    go_wp2_with fail
                    go_roundw
                    case rel => exact ⟨J + 1, by omega, by omega, by go_num, HB5, HL5⟩
                    case measure => simp [intOf]; omega
                  · obtain rfl : J = fr + d := by omega
                    go_wp2_with fail
                    go_roundw
                    case rel => exact ⟨k + 1, by omega, by go_num, by rw [HHE.out]; rfl, HB3, HL3⟩
                    case measure => simp [intOf]; omega
    · obtain rfl : k = Ms.length := by omega
      go_wp2_with fail
      go_ret
      exact ⟨rfl, HL.out⟩

end Go.Proofs.Qxb6003633a
