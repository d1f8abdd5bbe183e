import Derived.Test.Qxb6003633aCutS
import Derived.Test.Qxb6003633aFitsW
import Derived.Test.Qxb6003633aClones
import Derived.Deep.Cut
import Derived.Deep.RegionWith
import Derived.BigQuiet
import Derived.StillTailTactics
namespace Go.Proofs.Qxb6003633a
open Go.RowKit Go.Maps
set_option linter.unusedVariables false

theorem Cs.kept2 {α : Type} {f : α → Value} {d : α} {w w1 w' : World} {ao : Option Addr} {L : List α} {base : Nat} (h : Cs f d w ao L) (hb0 : w.heap.size ≤ base) (h1 : Nx w w1) (hb : Below base w1 w') : Cs f d w' ao L := by
  intro j hj
  obtain ⟨g, off, e, hc⟩ := h j hj
  refine ⟨g, off, e, (hb.cell (p := ⟨g, off + j, none⟩) ?_).trans (h1.cell hc)⟩
  exact Nat.lt_of_lt_of_le (cell_lt hc) hb0
/-- what lies there behind the whole's keep -/
structure WAt (w : World) (x0 x1 x2 x3 x4 x5 : Option Addr) (W bm base p gr gu : Nat) (rt : Option Nat) (sv : Value) (svs : List Value) (names : List (List UInt8)) (sp : Sp) (M Li H R : List Int) (Ms : List ByteArray) (E : List Int) : Prop where
  c0 : Cs (Value.int .i32) 0 w x0 M
  c1 : Cs (Value.int .u32) 0 w x1 Li
  c2 : Cs (Value.int .i64) 0 w x2 H
  c3 : Cs (Value.int .i64) 0 w x3 R
  c4 : Cs Value.string ByteArray.empty w x4 Ms
  c5 : Cs (Value.int .i64) 0 w x5 E
  work : WorkAt w W bm base sv svs names sp
  part : PartAt w p gr gu (tvOf rt M.length) M Li H R rt.isNone Ms E
theorem WAt.later {w w' : World} {x0 x1 x2 x3 x4 x5 : Option Addr} {W bm base p gr gu : Nat} {rt : Option Nat} {sv : Value} {svs : List Value} {names : List (List UInt8)} {sp : Sp} {M Li H R : List Int} {Ms : List ByteArray} {E : List Int}
    (h : WAt w x0 x1 x2 x3 x4 x5 W bm base p gr gu rt sv svs names sp M Li H R Ms E) (hb : Nx w w') : WAt w' x0 x1 x2 x3 x4 x5 W bm base p gr gu rt sv svs names sp M Li H R Ms E :=
  ⟨h.c0.later hb, h.c1.later hb, h.c2.later hb, h.c3.later hb, h.c4.later hb, h.c5.later hb, h.work.later hb, h.part.later hb⟩
def fillS (E : List Int) (ct e0 n k : Nat) : List Int := (List.range n).map fun j => if j < k then E.getD (ct + j) 0 - (e0 : Int) else 0
theorem fillS_len (E : List Int) (ct e0 n k : Nat) : (fillS E ct e0 n k).length = n := by simp [fillS]
theorem fillS_zero (E : List Int) (ct e0 n : Nat) : fillS E ct e0 n 0 = List.replicate n 0 := by
  apply List.ext_getElem
  · simp [fillS]
  · intro i h1 h2; simp [fillS]
theorem fillS_step (E : List Int) (ct e0 n k : Nat) (v : Int) (hv : v = E.getD (ct + k) 0 - (e0 : Int)) : (fillS E ct e0 n k).set k v = fillS E ct e0 n (k + 1) := by
  apply List.ext_getElem
  · simp [fillS]
  · intro i h1 h2
    rw [List.getElem_set]
    by_cases e : k = i
    · subst e; simp [fillS, hv]
    · rw [if_neg e]
      simp only [fillS, List.getElem_map, List.getElem_range]
      have : (i < k) ↔ (i < k + 1) := by omega
      simp [this]
theorem fillS_all (E : List Int) (ct n : Nat) (hn : n = E.length - ct) : fillS E ct (fromAt E ct) n n = shE E ct := by
  subst hn
  apply List.ext_getElem
  · simp [fillS, shE]
  · intro i h1 h2
    have : i < E.length - ct := by simpa [fillS] using h1
    simp [fillS, shE, this]

theorem Nx.drew (w : World) : Nx w w.drew := ⟨rfl, rfl, rfl, Nat.le_refl _, fun _ _ => rfl⟩
set_option maxRecDepth 100000 in
set_option maxHeartbeats 16000000 in
theorem parts_in (a0 a1 a2 a3 a4 a5 : Option Addr) (c0 c1 c2 c3 c4 c5 : Nat) (M Li H R : List Int) (Ms : List ByteArray) (E : List Int) (cut : Int) (w : World)
    (C0 : Cs (Value.int .i32) 0 w a0 M) (C1 : Cs (Value.int .u32) 0 w a1 Li) (C2 : Cs (Value.int .i64) 0 w a2 H) (C3 : Cs (Value.int .i64) 0 w a3 R) (C4 : Cs Value.string ByteArray.empty w a4 Ms) (C5 : Cs (Value.int .i64) 0 w a5 E)
    (hE : ∀ k, -9223372036854775808 ≤ E.getD k 0 ∧ E.getD k 0 ≤ 9223372036854775807)
    (b0 : M.length ≤ 9223372036854775807) (b1 : Li.length ≤ 9223372036854775807) (b2 : H.length ≤ 9223372036854775807) (b3 : R.length ≤ 9223372036854775807) (b4 : Ms.length ≤ 9223372036854775807) (b5 : E.length ≤ 9223372036854775807) (k0 : -9223372036854775808 ≤ cut) (k1 : cut ≤ 9223372036854775807) :
    Calls Try.prog 8 #[.slice a0 M.length c0, .slice a1 Li.length c1, .slice a2 H.length c2, .slice a3 R.length c3, .slice a4 Ms.length c4, .slice a5 E.length c5, .int .i64 cut] w fun e w' => e = .returned (.bool true) ∧ Below w.heap.size w w' := by
  have HB := hid (bytes39 a0 a1 a2 a3 a4 a5 M.length Li.length H.length R.length E.length c0 c1 c2 c3 c4 c5 cut Ms w C4 b0 b1 b2 b3 b4 b5)
  have HFI := hid (fits20 a0 a1 a2 a3 a4 a5 M.length Li.length H.length R.length c0 c1 c2 c3 c4 c5 Ms E w C4 C5 hE b0 b1 b2 b3 b4 b5)
  have HC0 := hid C0; have HC1 := hid C1; have HC2 := hid C2; have HC3 := hid C3; have HC4 := hid C4; have HC5 := hid C5
  clear C0 C1 C2 C3 C4 C5 hE b0 b1 b2 b3 b5
  go_enter Try.func8, Try.ntmps8
  go_wp2_with fail
  refine HB.out.mono ?_
  rintro e w' ⟨⟨b, rfl⟩, hw⟩
  have hw := hw.symm
  subst hw
  cases b
  · clear HFI HC0 HC1 HC2 HC3 HC4 HC5 HB
    go_wp2_with fail
    go_ret
    exact ⟨rfl, Below.refl _ _⟩
  clear HB
  go_wp2_with fail
  refine HFI.out.mono ?_
  rintro e w' ⟨hfo, hw⟩
  have hw := hw.symm
  subst hw
  rcases hfo with rfl | ⟨rfl, hfit⟩
  · clear HFI HC0 HC1 HC2 HC3 HC4 HC5
    go_wp2_with fail
    go_ret
    exact ⟨rfl, Below.refl _ _⟩
  clear HFI
  have HF := hid hfit; clear hfit
  have l4 := HF.out.few
  by_cases q0 : cut < 0
  · clear HC0 HC1 HC2 HC3 HC4 HC5
    go_wp2_with fail
    go_ret
    exact ⟨rfl, Below.refl _ _⟩
  by_cases q1 : (Ms.length : Int) < cut
  · clear HC0 HC1 HC2 HC3 HC4 HC5
    go_wp2_with fail
    go_ret
    exact ⟨rfl, Below.refl _ _⟩
  obtain ⟨ct, hct⟩ : ∃ ct : Nat, cut = (ct : Int) := ⟨cut.toNat, by omega⟩
  subst hct
  have hct : ct ≤ Ms.length := by omega
  clear q0 q1 k0 k1
  have l0 := HF.out.small
  have l1 : Li.length ≤ 262144 := by rw [HF.out.lines]; exact l0
  have l2 : H.length ≤ 262144 := by rw [HF.out.hours]; exact l0
  have l3 : R.length ≤ 131072 := HF.out.rsmall
  have l5 : E.length ≤ 4096 := by rw [HF.out.ends]; exact l4
  go_wp2_with fail
  refine (clone21 _ M _ _ HC0.out (by omega)).mono ?_
  rintro e w1 ⟨x0, d0, rfl, m0, u0, v0, HD0, HN1⟩
  go_wp2_with fail
  refine (clone22 _ Li _ _ (HC1.out.later HN1.out) (by omega)).mono ?_
  rintro e w2b ⟨x1, d1, rfl, m1, u1, v1, HD1, HN2⟩
  go_wp2_with fail
  refine (clone23 _ H _ _ (HC2.out.later (HN1.out.trans HN2.out)) (by omega)).mono ?_
  rintro e w3 ⟨x2, d2, rfl, m2, u2, v2, HD2, HN3⟩
  go_wp2_with fail
  refine (clone23 _ R _ _ (HC3.out.later ((HN1.out.trans HN2.out).trans HN3.out)) (by omega)).mono ?_
  rintro e w4 ⟨x3, d3, rfl, m3, u3, v3, HD3, HN4⟩
  go_wp2_with fail
  refine (clone24 _ Ms _ _ (HC4.out.later (((HN1.out.trans HN2.out).trans HN3.out).trans HN4.out)) (by omega)).mono ?_
  rintro e w5 ⟨x4, d4, rfl, m4, u4, v4, HD4, HN5⟩
  go_wp2_with fail
  refine (clone25 _ E _ _ (HC5.out.later ((((HN1.out.trans HN2.out).trans HN3.out).trans HN4.out).trans HN5.out)) (by omega)).mono ?_
  rintro e w6 ⟨x5, d5, rfl, m5, u5, v5, HD5, HN6⟩
  have HN : Hid (Nx w w6) := ((((HN1.out.trans HN2.out).trans HN3.out).trans HN4.out).trans HN5.out).trans HN6.out
  have D0 := hid (HD0.out.later ((((HN2.out.trans HN3.out).trans HN4.out).trans HN5.out).trans HN6.out))
  have D1 := hid (HD1.out.later (((HN3.out.trans HN4.out).trans HN5.out).trans HN6.out))
  have D2 := hid (HD2.out.later ((HN4.out.trans HN5.out).trans HN6.out))
  have D3 := hid (HD3.out.later (HN5.out.trans HN6.out))
  have D4 := hid (HD4.out.later HN6.out)
  have D5 := HD5
  clear HC0 HC1 HC2 HC3 HC4 HC5 HD0 HD1 HD2 HD3 HD4 HD5 HN1 HN2 HN3 HN4 HN5 HN6
  have HCE : Hid (ct ≤ E.length) := by show _ ≤ _; rw [HF.out.ends]; exact hct
  have HE0 := hid (fromAt_le HF.out.ok HCE.out)
  go_upto_if 67 with fail
  go_cut [15] from 29 (fun s wc => s = .int .i64 (fromAt E ct : Int) ∧ wc = w6)
  case first =>
    by_cases hz : ct = 0
    · subst hz
      go_wp2_with fail
      go_meet
      case rel => exact ⟨rfl, rfl⟩
    · have hz1 : (0 : Int) < (ct : Int) := by omega
      obtain ⟨cp, hcp⟩ : ∃ cp, ct = cp + 1 := ⟨ct - 1, by omega⟩
      have hlt : cp < E.length := by have := HCE.out; omega
      obtain ⟨g5, o5, hx5, hc5⟩ := D5.out cp hlt
      subst hx5
      have h1 := (ends_nat HF.out.ok cp hlt)
      rw [h1.1] at hc5
      have HE1 := hid h1.2.2.2.2; clear h1
      have hj1 : (cp : Int) < (E.length : Int) := by omega
      go_wp2_with fail
      go_meet
      case rel => exact ⟨by rw [hcp, HE1.out], rfl⟩
  case rest =>
    obtain ⟨rfl, hcw⟩ := hcut
    have hcw := hcw.symm
    subst hcw
    go_wp2_with fail
    refine (newWork w6).mono ?_
    rintro e w7 ⟨rfl, hw7⟩
    have HWN : Hid (WorkAt w7 (w6.heap.size + 1) w6.heap.size w6.heap.size (.slice none 0 0) [] [] []) := by rw [hw7]; exact work_new w6
    have HN7 : Hid (Nx w6 w7) := by rw [hw7]; exact (Nx.alloc _ _).trans (Nx.alloc _ _)
    clear hw7
    obtain ⟨base, hbase⟩ : ∃ base, base = w6.heap.size := ⟨_, rfl⟩
    rw [← hbase] at HWN ⊢
    have HBA := hid hbase; clear hbase
    go_wp2_with fail
    refine (part28 x0 x1 x2 x3 x4 x5 d0 d1 d2 d3 d4 d5 M Li H R Ms E w7 (D0.out.later HN7.out) (D1.out.later HN7.out) (D2.out.later HN7.out) (D3.out.later HN7.out) (D4.out.later HN7.out) (D5.out.later HN7.out) l0 HF.out.lines HF.out.hours (fun h => HF.out.rates (by rw [← m3]; exact h)) HF.out.ends l4).mono ?_
    rintro e w8 ⟨p, gr, gu, rt, rfl, HPT, hrt, HN8⟩
    go_wp2_with fail
    refine (keep27 (base + 1) p base base gr gu rt (.slice none 0 0) [] ([], []) M Li H R Ms E w8 0 (HWN.out.later HN8.out) HPT.out HF.out.ends HF.out.ok l0 l4 HF.out.short bd_new (by omega)).mono ?_
    rintro e w9 ⟨rfl, sv, svs, HW9, HK9⟩
    have hb6 : w6.heap.size ≤ base := by rw [HBA.out]; exact Nat.le_refl _
    have HN68 := hid (HN7.out.trans HN8.out)
    have F0 := hid (D0.out.kept2 hb6 HN68.out HK9.out.below)
    have F1 := hid (D1.out.kept2 hb6 HN68.out HK9.out.below)
    have F2 := hid (D2.out.kept2 hb6 HN68.out HK9.out.below)
    have F3 := hid (D3.out.kept2 hb6 HN68.out HK9.out.below)
    have F4 := hid (D4.out.kept2 hb6 HN68.out HK9.out.below)
    have F5 := hid (D5.out.kept2 hb6 HN68.out HK9.out.below)
    have HP9 := hid (HPT.out.framed HK9.out)
    have HN9 : Hid (Below w.heap.size w w9) := Below.trans (HN.out.trans HN68.out) (HK9.out.below.mono (by rw [HBA.out]; exact HN.out.size))
    have hrt2 : rt.isNone = x3.isNone := by rw [hrt]
    clear D0 D1 D2 D3 D4 D5 HPT HWN HN7 HN8 HN68 HK9 hb6 HN HBA hrt
    have HA := hid (WAt.mk F0.out F1.out F2.out F3.out F4.out F5.out HW9.out HP9.out)
    clear F0 F1 F2 F3 F4 F5 HW9 HP9
    have HQ1 := hid (stK_stG ([], []) gr rt Ms E Ms.length)
    have HBD := hid (stK_bd bd_new gr rt Ms E Ms.length)
    generalize stK ([], []) gr rt Ms E Ms.length = stf at HQ1 HA HBD
    obtain ⟨names, sp⟩ := stf
    replace HA : Hid (WAt w9 x0 x1 x2 x3 x4 x5 (base + 1) base base p gr gu rt sv svs names sp M Li H R Ms E) := HA
    obtain ⟨n2, hn2⟩ : ∃ n2, n2 = E.length - ct := ⟨_, rfl⟩
    have HN2 := hid hn2
    have hn3 : (E.length : Int) - (ct : Int) = (n2 : Int) := by have := HCE.out; omega
    have hn4 : n2 ≤ 4096 := by omega
    have HN3 := hid hn3
    have hmk : ∀ w : World, (Instr.makeSlice 44 (.int .i64 ((E.length : Int) - (ct : Int))) (.int .i64 ((E.length : Int) - (ct : Int)))).run Try.prog w = .ok (.slice (some ⟨w.heap.size, 0, none⟩) n2 n2) (w.alloc (.cells (madeCells #[.int .i64 0] n2) 3)) := by
      obtain ⟨i0, hi, hz0, hz1, hz2⟩ := info_parts info3
      intro w
      rw [hn3]
      have := run_make (P := Try.prog) w 44 3 i0 _ Try.underlying44 hi hz0 .i64 .i64 (n2 : Int) (n2 : Int) (by omega) (by omega) (by rw [hz2]; omega) (by omega)
      rw [hz1] at this
      simp only [Int.toNat_natCast, Nat.mul_one] at this
      exact this
    clear hn2 hn3
    go_upto_region 19 with fail
    clear hmk
    have hfe : fromAt E ct ≤ 262144 := Nat.le_trans HE0.out l0
    have HR0 : Hid (RowF (Value.int .i64) (w9.alloc (.cells (madeCells #[.int .i64 0] n2) 3)) w9.heap.size 3 (fillS E ct (fromAt E ct) n2 0)) := by
      have := made_row (Value.int .i64) 0 w9 n2 3
      rw [← fillS_zero E ct (fromAt E ct) n2] at this
      exact this
    have HX0 : Hid (Below w9.heap.size w9 (w9.alloc (.cells (madeCells #[.int .i64 0] n2) 3))) := (Below.refl _ _).alloc (Nat.le_refl _) _
    generalize w9.alloc (.cells (madeCells #[.int .i64 0] n2) 3) = wA at *
    go_wp2_with fail
    go_loopw [18] (fun i wr => ∃ k : Nat, k ≤ n2 ∧ i = .int .i64 k ∧ Hid (RowF (Value.int .i64) wr w9.heap.size 3 (fillS E ct (fromAt E ct) n2 k)) ∧ Hid (Below w9.heap.size w9 wr)) (fun i _ => n2 - (intOf i).toNat)
    case atStart => exact ⟨0, by omega, rfl, HR0, HX0⟩
    case round =>
      obtain ⟨k, hk, rfl, HRK, HXK⟩ := hrel
      clear HR0 HX0
      by_cases h1 : k < n2
      · have hk0 : (0 : Int) ≤ (k : Int) := by omega
        have hk1 : (k : Int) < (n2 : Int) := by omega
        have hki : ct + k < E.length := by have := HN2.out; omega
        have hk2 : (ct : Int) + (k : Int) < (E.length : Int) := by omega
        have hcell := HRK.out.cell 0 k (by rw [fillS_len]; exact h1)
        have hfz := HRK.out.frozen k
        generalize (fillS E ct (fromAt E ct) n2 k).getD k 0 = z at hcell
        obtain ⟨g5, o5, hx5, hc5⟩ := HA.out.c5 (ct + k) hki
        subst hx5
        have h1e := ends_nat HF.out.ok (ct + k) hki
        have HV := hid h1e.1
        have hen : endAt E (ct + k) ≤ 262144 := by have := h1e.2.2.2.1; omega
        rw [h1e.1] at hc5
        clear h1e
        have hc5' : wr.cell? ⟨g5, o5 + ((ct : Int) + (k : Int)).toNat, none⟩ = some (.int .i64 (endAt E (ct + k) : Int)) := by
          have e1 : ((ct : Int) + (k : Int)).toNat = ct + k := by omega
          rw [e1]
          exact (HXK.out.cell (p := ⟨g5, o5 + (ct + k), none⟩) (cell_lt hc5)).trans hc5
        have hc6 : wr.cell? ⟨g5, o5 + (ct + k), none⟩ = some (.int .i64 (endAt E (ct + k) : Int)) := (HXK.out.cell (p := ⟨g5, o5 + (ct + k), none⟩) (cell_lt hc5)).trans hc5
        clear hc5
        generalize hen2 : endAt E (ct + k) = en at *
        have HEN := hid hen2; clear hen2
        go_wp2
        have HRN : Hid (RowF (Value.int .i64) (wr.setCell ⟨w9.heap.size, k, none⟩ (.int .i64 ((en : Int) - (fromAt E ct : Int)))) w9.heap.size 3 (fillS E ct (fromAt E ct) n2 (k + 1))) := by
          have := HRK.out.set k ((en : Int) - (fromAt E ct : Int))
          rw [fillS_step E ct (fromAt E ct) n2 k _ (by rw [HV.out])] at this
          exact this
        have HXN : Hid (Below w9.heap.size w9 (wr.setCell ⟨w9.heap.size, k, none⟩ (.int .i64 ((en : Int) - (fromAt E ct : Int))))) := HXK.out.setCell (Nat.le_refl _) _
        go_roundw
        case rel => exact ⟨k + 1, by omega, by go_num, HRN, HXN⟩
        case measure => simp [intOf]; omega
      · obtain rfl : k = n2 := by omega
        rw [fillS_all E ct k HN2.out] at HRK
        have HSH := hid (HRK.out.cs (0 : Int))
        have HA2 := hid (HA.out.later HXK.out)
        have HL2 : Hid (Below w.heap.size w wr) := HN9.out.trans (HXK.out.mono HN9.out.size)
        clear HA HN9 HRK HXK
        generalize hgs : w9.heap.size = gs at *
        generalize hwB : wr = wB at *
        clear hgs hwB
        have HQN := hid (run_neq_slice_nil_any (P := Try.prog) (t := 42) (e := 2) (h := Try.underlying42))
        have hqn : ∀ (w : World) (n c n' c' : Nat), Sem.run Try.prog (binOp BinOp.neq 42 (Value.slice x3 n c) (Value.slice none n' c')) w = Result.ok (Value.bool x3.isSome) w := by
          intro w n c n' c'
          have := HQN.out w x3 n c n' c'
          cases x3 <;> exact this
        go_upto_if 106 with fail
        clear hqn
        go_cut [19, 20] from 29 (fun sa sb wc => wc = wB ∧ ∃ xa ca xb cb la lb, sa = .slice xa la ca ∧ sb = .slice xb lb cb ∧ Hid (la = (R.take (fromAt E ct)).length) ∧ Hid (lb = (R.drop (fromAt E ct)).length) ∧ xa.isNone = x3.isNone ∧ xb.isNone = x3.isNone ∧ Hid (Cs (Value.int .i64) 0 wB xa (R.take (fromAt E ct))) ∧ Hid (Cs (Value.int .i64) 0 wB xb (R.drop (fromAt E ct))))
        case first =>
          cases x3 with
          | none =>
            have hr0 := HA2.out.c3.none_nil
            have hnil : R = [] := List.eq_nil_of_length_eq_zero hr0
            have hb : (none : Option Addr).isSome = false := rfl
            rw [hb]
            go_wp2_with fail
            go_meet
            case rel => exact ⟨rfl, none, 0, none, 0, 0, 0, rfl, rfl, by show _ = _; rw [hnil, List.take_nil]; rfl, by show _ = _; rw [hnil, List.drop_nil]; rfl, rfl, rfl, by rw [hnil]; intro j hj; simp at hj, by rw [hnil]; intro j hj; simp at hj⟩
          | some y3 =>
            have hb : (some y3 : Option Addr).isSome = true := rfl
            rw [hb]
            have hRM : R.length = M.length := HF.out.rates (by rw [← m3]; rfl)
            have he0R : fromAt E ct ≤ R.length := by rw [hRM]; exact HE0.out
            have hl1 : (R.take (fromAt E ct)).length = fromAt E ct := by rw [List.length_take]; omega
            have hl2 : (R.drop (fromAt E ct)).length = R.length - fromAt E ct := List.length_drop
            have hs1 : ∀ w, (Instr.slice 42 (.slice (some y3) R.length d3) none (some (.int .i64 (fromAt E ct : Int))) none).run Try.prog w = .ok (.slice (some y3) (fromAt E ct) d3) w := fun w => sl_h Try.underlying42 sz42 _ _ _ _ (by omega) w
            have hs2 : ∀ w, (Instr.slice 42 (.slice (some y3) R.length d3) (some (.int .i64 (fromAt E ct : Int))) none none).run Try.prog w = .ok (.slice (offA (some y3) (fromAt E ct) d3) (R.length - fromAt E ct) (d3 - fromAt E ct)) w := fun w => sl_l Try.underlying42 sz42 _ _ _ _ (by omega) w
            have HL1 := hid hl1; have HL2 := hid hl2
            clear hl1 hl2 hRM
            go_wp2_with fail
            go_meet
            case rel => exact ⟨rfl, some y3, d3, _, _, _, _, rfl, rfl, HL1.out.symm, HL2.out.symm, rfl, offA_none _ _ _, HA2.out.c3.take _, HA2.out.c3.drop u3 _⟩
        case rest =>
          obtain ⟨hwc, xa, ca, xb, cb, la, lb, rfl, rfl, HLA, HLB, hxa, hxb, HCA, HCB⟩ := hcut
          have hwc := hwc.symm
          subst hwc
          clear HQN
          go_wp2_with fail
          refine (newWork wB).mono ?_
          rintro e wC ⟨rfl, hwC⟩
          have HWN : Hid (WorkAt wC (wB.heap.size + 1) wB.heap.size wB.heap.size (.slice none 0 0) [] [] []) := by rw [hwC]; exact work_new wB
          have HNC : Hid (Nx wB wC) := by rw [hwC]; exact (Nx.alloc _ _).trans (Nx.alloc _ _)
          clear hwC
          obtain ⟨b2, hb2⟩ : ∃ b2, b2 = wB.heap.size := ⟨_, rfl⟩
          rw [← hb2] at HWN ⊢
          have HB2 := hid hb2; clear hb2
          have he0 := HE0.out
          have HT0 : Hid ((M.take (fromAt E ct)).length = fromAt E ct) := by show _ = _; rw [List.length_take]; omega
          have HT1 : Hid ((Li.take (fromAt E ct)).length = fromAt E ct) := by show _ = _; rw [List.length_take, HF.out.lines]; omega
          have HT2 : Hid ((H.take (fromAt E ct)).length = fromAt E ct) := by show _ = _; rw [List.length_take, HF.out.hours]; omega
          have HT4 : Hid ((Ms.take ct).length = ct) := by show _ = _; rw [List.length_take]; omega
          have HT5 : Hid ((E.take ct).length = ct) := by show _ = _; rw [List.length_take, HF.out.ends]; omega
          have hsa0 : ∀ w, (Instr.slice 40 (.slice x0 M.length d0) none (some (.int .i64 (fromAt E ct : Int))) none).run Try.prog w = .ok (.slice x0 (fromAt E ct) d0) w := fun w => sl_h Try.underlying40 sz40 _ _ _ _ (by omega) w
          have hsa1 : ∀ w, (Instr.slice 41 (.slice x1 Li.length d1) none (some (.int .i64 (fromAt E ct : Int))) none).run Try.prog w = .ok (.slice x1 (fromAt E ct) d1) w := fun w => sl_h Try.underlying41 sz41 _ _ _ _ (by have := HF.out.lines; omega) w
          have hsa2 : ∀ w, (Instr.slice 42 (.slice x2 H.length d2) none (some (.int .i64 (fromAt E ct : Int))) none).run Try.prog w = .ok (.slice x2 (fromAt E ct) d2) w := fun w => sl_h Try.underlying42 sz42 _ _ _ _ (by have := HF.out.hours; omega) w
          have hsa4 : ∀ w, (Instr.slice 43 (.slice x4 Ms.length d4) none (some (.int .i64 (ct : Int))) none).run Try.prog w = .ok (.slice x4 ct d4) w := fun w => sl_h Try.underlying43 sz43 _ _ _ _ (by omega) w
          have hsa5 : ∀ w, (Instr.slice 44 (.slice x5 E.length d5) none (some (.int .i64 (ct : Int))) none).run Try.prog w = .ok (.slice x5 ct d5) w := fun w => sl_h Try.underlying44 sz44 _ _ _ _ (by have := HF.out.ends; omega) w
          have HP1 : Hid (∀ w', Nx wB w' → Calls Try.prog 28 #[.slice x0 (fromAt E ct) d0, .slice x1 (fromAt E ct) d1, .slice x2 (fromAt E ct) d2, .slice xa la ca, .slice x4 ct d4, .slice x5 ct d5] w' fun e w'' => ∃ p1 gr1 gu1 rt1, e = .returned (.pointer (some ⟨p1, 0, none⟩)) ∧ Hid (PartAt w'' p1 gr1 gu1 (tvOf rt1 (M.take (fromAt E ct)).length) (M.take (fromAt E ct)) (Li.take (fromAt E ct)) (H.take (fromAt E ct)) (R.take (fromAt E ct)) rt1.isNone (Ms.take ct) (E.take ct)) ∧ rt1.isNone = xa.isNone ∧ Hid (Nx w' w'')) := by
            intro w' hw'
            have h := HA2.out.later hw'
            have ea : (#[.slice x0 (fromAt E ct) d0, .slice x1 (fromAt E ct) d1, .slice x2 (fromAt E ct) d2, .slice xa la ca, .slice x4 ct d4, .slice x5 ct d5] : Array Value) = #[.slice x0 (M.take (fromAt E ct)).length d0, .slice x1 (Li.take (fromAt E ct)).length d1, .slice x2 (H.take (fromAt E ct)).length d2, .slice xa (R.take (fromAt E ct)).length ca, .slice x4 (Ms.take ct).length d4, .slice x5 (E.take ct).length d5] := by
              rw [HT0.out, HT1.out, HT2.out, HT4.out, HT5.out, HLA.out]
            rw [ea]
            refine part28 x0 x1 x2 xa x4 x5 d0 d1 d2 ca d4 d5 _ _ _ _ _ _ w' (h.c0.take _) (h.c1.take _) (h.c2.take _) (HCA.out.later hw') (h.c4.take _) (h.c5.take _) ?_ ?_ ?_ ?_ ?_ ?_
            · rw [HT0.out]; omega
            · rw [HT0.out, HT1.out]
            · rw [HT0.out, HT2.out]
            · intro hh
              rw [List.length_take, List.length_take, HF.out.rates (by rw [← m3, ← hxa]; exact hh)]
            · rw [HT4.out, HT5.out]
            · rw [HT4.out]; omega
          have HK1 : Hid (∀ (w' : World) (p1 gr1 gu1 : Nat) (rt1 : Option Nat), Nx wC w' → PartAt w' p1 gr1 gu1 (tvOf rt1 (M.take (fromAt E ct)).length) (M.take (fromAt E ct)) (Li.take (fromAt E ct)) (H.take (fromAt E ct)) (R.take (fromAt E ct)) rt1.isNone (Ms.take ct) (E.take ct) →
              Calls Try.prog 27 #[.pointer (some ⟨b2 + 1, 0, none⟩), .pointer (some ⟨p1, 0, none⟩)] w' fun e w'' => e = .returned (.tuple #[]) ∧ ∃ sv1 svs1, Hid (WorkAt w'' (b2 + 1) b2 b2 sv1 svs1 (stK ([], []) gr1 rt1 (Ms.take ct) (E.take ct) (Ms.take ct).length).1 (stK ([], []) gr1 rt1 (Ms.take ct) (E.take ct) (Ms.take ct).length).2) ∧ Hid (KFrame b2 w' w'')) := by
            intro w' p1 gr1 gu1 rt1 hw' hpt
            refine keep27 (b2 + 1) p1 b2 b2 gr1 gu1 rt1 (.slice none 0 0) [] ([], []) _ _ _ _ _ _ w' 0 (HWN.out.later hw') hpt ?_ ?_ ?_ ?_ ?_ bd_new (by omega)
            · rw [HT4.out, HT5.out]
            · rw [HT0.out]; exact ok_take HF.out.ok HCE.out
            · rw [HT0.out]; omega
            · rw [HT4.out]; omega
            · intro k hk
              rw [HT4.out] at hk
              rw [take_getD _ _ hk]
              exact HF.out.short k (by omega)
          go_upto_region 29 with fail
          go_cut [] from 29 (fun wc => ∃ p1 gr1 gu1 rt1 sv1 svs1, rt1.isNone = x3.isNone ∧ Hid (PartAt wc p1 gr1 gu1 (tvOf rt1 (M.take (fromAt E ct)).length) (M.take (fromAt E ct)) (Li.take (fromAt E ct)) (H.take (fromAt E ct)) (R.take (fromAt E ct)) rt1.isNone (Ms.take ct) (E.take ct)) ∧ Hid (WorkAt wc (b2 + 1) b2 b2 sv1 svs1 (stK ([], []) gr1 rt1 (Ms.take ct) (E.take ct) (Ms.take ct).length).1 (stK ([], []) gr1 rt1 (Ms.take ct) (E.take ct) (Ms.take ct).length).2) ∧ Hid (Nx wB wc))
          case first =>
            go_region_with (first
              | (go_at_call 28; refine (HP1.out _ ?_).mono ?_; exact HNC.out.trans (Nx.drew _); rintro e wD ⟨p1, gr1, gu1, rt1, rfl, HPT1, hrt1, HND⟩)
              | (go_at_call 27; refine (HK1.out _ p1 gr1 gu1 rt1 ?_ HPT1.out).mono ?_; exact (Nx.drew _).trans HND.out; rintro e wE ⟨rfl, sv1, svs1, HWE, HKE⟩))
            go_wp2_with fail
            go_meet
            case rel => exact ⟨p1, gr1, gu1, rt1, sv1, svs1, by rw [hrt1, hxa], HPT1.out.framed HKE.out, HWE, Below.trans ((HNC.out.trans (Nx.drew _)).trans HND.out) (HKE.out.below.mono (by rw [HB2.out]; exact Nat.le_refl _))⟩
          case rest =>
            obtain ⟨p1, gr1, gu1, rt1, sv1, svs1, hrt1, HPT1, HWE, HNX⟩ := hcut
            clear hsa0 hsa1 hsa2 hsa4 hsa5 HP1 HK1 HWN HNC HT0 HT1 HT2
            obtain ⟨r0, hr0⟩ : ∃ r0, r0 = M.length - fromAt E ct := ⟨_, rfl⟩
            have HT0 : Hid ((M.drop (fromAt E ct)).length = r0) := by show _ = _; rw [List.length_drop, hr0]
            have HT1 : Hid ((Li.drop (fromAt E ct)).length = r0) := by show _ = _; rw [List.length_drop, HF.out.lines, hr0]
            have HT2 : Hid ((H.drop (fromAt E ct)).length = r0) := by show _ = _; rw [List.length_drop, HF.out.hours, hr0]
            have HS4 : Hid ((Ms.drop ct).length = k) := by show _ = _; rw [List.length_drop, HN2.out, HF.out.ends]
            have HS5 : Hid ((shE E ct).length = k) := by show _ = _; rw [shE_len, HN2.out]
            have HR0' := hid hr0
            have hr1 : r0 ≤ 262144 := by omega
            have hsb0 : ∀ w, (Instr.slice 40 (.slice x0 M.length d0) (some (.int .i64 (fromAt E ct : Int))) none none).run Try.prog w = .ok (.slice (offA x0 (fromAt E ct) d0) r0 (d0 - fromAt E ct)) w := fun w => by rw [sl_l Try.underlying40 sz40 _ _ _ _ (by omega) w, hr0]
            have hsb1 : ∀ w, (Instr.slice 41 (.slice x1 Li.length d1) (some (.int .i64 (fromAt E ct : Int))) none none).run Try.prog w = .ok (.slice (offA x1 (fromAt E ct) d1) r0 (d1 - fromAt E ct)) w := fun w => by rw [sl_l Try.underlying41 sz41 _ _ _ _ (by have := HF.out.lines; omega) w, hr0, HF.out.lines]
            have hsb2 : ∀ w, (Instr.slice 42 (.slice x2 H.length d2) (some (.int .i64 (fromAt E ct : Int))) none none).run Try.prog w = .ok (.slice (offA x2 (fromAt E ct) d2) r0 (d2 - fromAt E ct)) w := fun w => by rw [sl_l Try.underlying42 sz42 _ _ _ _ (by have := HF.out.hours; omega) w, hr0, HF.out.hours]
            have hsb4 : ∀ w, (Instr.slice 43 (.slice x4 Ms.length d4) (some (.int .i64 (ct : Int))) none none).run Try.prog w = .ok (.slice (offA x4 ct d4) k (d4 - ct)) w := fun w => by rw [sl_l Try.underlying43 sz43 _ _ _ _ (by omega) w, HN2.out, HF.out.ends]
            clear hr0
            have HP2 : Hid (∀ w', Nx wB w' → Calls Try.prog 28 #[.slice (offA x0 (fromAt E ct) d0) r0 (d0 - fromAt E ct), .slice (offA x1 (fromAt E ct) d1) r0 (d1 - fromAt E ct), .slice (offA x2 (fromAt E ct) d2) r0 (d2 - fromAt E ct), .slice xb lb cb, .slice (offA x4 ct d4) k (d4 - ct), .slice (some ⟨gs, 0, none⟩) k k] w' fun e w'' => ∃ p2 gr2 gu2 rt2, e = .returned (.pointer (some ⟨p2, 0, none⟩)) ∧ Hid (PartAt w'' p2 gr2 gu2 (tvOf rt2 (M.drop (fromAt E ct)).length) (M.drop (fromAt E ct)) (Li.drop (fromAt E ct)) (H.drop (fromAt E ct)) (R.drop (fromAt E ct)) rt2.isNone (Ms.drop ct) (shE E ct)) ∧ rt2.isNone = xb.isNone ∧ Hid (Nx w' w'')) := by
              intro w' hw'
              have h := HA2.out.later hw'
              have ea : (#[.slice (offA x0 (fromAt E ct) d0) r0 (d0 - fromAt E ct), .slice (offA x1 (fromAt E ct) d1) r0 (d1 - fromAt E ct), .slice (offA x2 (fromAt E ct) d2) r0 (d2 - fromAt E ct), .slice xb lb cb, .slice (offA x4 ct d4) k (d4 - ct), .slice (some ⟨gs, 0, none⟩) k k] : Array Value) = #[.slice (offA x0 (fromAt E ct) d0) (M.drop (fromAt E ct)).length (d0 - fromAt E ct), .slice (offA x1 (fromAt E ct) d1) (Li.drop (fromAt E ct)).length (d1 - fromAt E ct), .slice (offA x2 (fromAt E ct) d2) (H.drop (fromAt E ct)).length (d2 - fromAt E ct), .slice xb (R.drop (fromAt E ct)).length cb, .slice (offA x4 ct d4) (Ms.drop ct).length (d4 - ct), .slice (some ⟨gs, 0, none⟩) (shE E ct).length k] := by
                rw [HT0.out, HT1.out, HT2.out, HS4.out, HS5.out, HLB.out]
              rw [ea]
              refine part28 _ _ _ xb _ _ _ _ _ _ _ _ _ _ _ _ _ _ w' (h.c0.drop u0 _) (h.c1.drop u1 _) (h.c2.drop u2 _) (HCB.out.later hw') (h.c4.drop u4 _) (HSH.out.later hw') ?_ ?_ ?_ ?_ ?_ ?_
              · rw [HT0.out]; omega
              · rw [HT0.out, HT1.out]
              · rw [HT0.out, HT2.out]
              · intro hh
                rw [List.length_drop, List.length_drop, HF.out.rates (by rw [← m3, ← hxb]; exact hh)]
              · rw [HS4.out, HS5.out]
              · rw [HS4.out]; omega
            have HBD1 : Hid (Bd (stK ([], []) gr1 rt1 (Ms.take ct) (E.take ct) (Ms.take ct).length) 4096) := by
              have := stK_bd bd_new gr1 rt1 (Ms.take ct) (E.take ct) (Ms.take ct).length
              refine ⟨this.same, Nat.le_trans this.few ?_, fun i => Nat.le_trans (this.each i) ?_⟩ <;> (rw [HT4.out]; omega)
            have HK2 : Hid (∀ (w' : World) (p2 gr2 gu2 : Nat) (rt2 : Option Nat), Nx wc w' → PartAt w' p2 gr2 gu2 (tvOf rt2 (M.drop (fromAt E ct)).length) (M.drop (fromAt E ct)) (Li.drop (fromAt E ct)) (H.drop (fromAt E ct)) (R.drop (fromAt E ct)) rt2.isNone (Ms.drop ct) (shE E ct) →
                Calls Try.prog 27 #[.pointer (some ⟨b2 + 1, 0, none⟩), .pointer (some ⟨p2, 0, none⟩)] w' fun e w'' => e = .returned (.tuple #[]) ∧ ∃ sv2 svs2, Hid (WorkAt w'' (b2 + 1) b2 b2 sv2 svs2 (stK (stK ([], []) gr1 rt1 (Ms.take ct) (E.take ct) (Ms.take ct).length) gr2 rt2 (Ms.drop ct) (shE E ct) (Ms.drop ct).length).1 (stK (stK ([], []) gr1 rt1 (Ms.take ct) (E.take ct) (Ms.take ct).length) gr2 rt2 (Ms.drop ct) (shE E ct) (Ms.drop ct).length).2) ∧ Hid (KFrame b2 w' w'')) := by
              intro w' p2 gr2 gu2 rt2 hw' hpt
              refine keep27 (b2 + 1) p2 b2 b2 gr2 gu2 rt2 sv1 svs1 (stK ([], []) gr1 rt1 (Ms.take ct) (E.take ct) (Ms.take ct).length) _ _ _ _ _ _ w' 4096 (HWE.out.later hw') hpt ?_ ?_ ?_ ?_ ?_ HBD1.out (by omega)
              · rw [HS4.out, HS5.out]
              · rw [HT0.out, HR0'.out]; exact ok_shE HF.out.ok HCE.out
              · rw [HT0.out]; omega
              · rw [HS4.out]; omega
              · intro j hj
                rw [HS4.out] at hj
                rw [drop_getD]
                exact HF.out.short (ct + j) (by have := HN2.out; have := HF.out.ends; omega)
            go_upto_region 30 with fail
            go_cut [] from 29 (fun we => ∃ p2 gr2 gu2 rt2 sv2 svs2, rt2.isNone = x3.isNone ∧ Hid (PartAt we p1 gr1 gu1 (tvOf rt1 (M.take (fromAt E ct)).length) (M.take (fromAt E ct)) (Li.take (fromAt E ct)) (H.take (fromAt E ct)) (R.take (fromAt E ct)) rt1.isNone (Ms.take ct) (E.take ct)) ∧ Hid (PartAt we p2 gr2 gu2 (tvOf rt2 (M.drop (fromAt E ct)).length) (M.drop (fromAt E ct)) (Li.drop (fromAt E ct)) (H.drop (fromAt E ct)) (R.drop (fromAt E ct)) rt2.isNone (Ms.drop ct) (shE E ct)) ∧ Hid (WorkAt we (b2 + 1) b2 b2 sv2 svs2 (stK (stK ([], []) gr1 rt1 (Ms.take ct) (E.take ct) (Ms.take ct).length) gr2 rt2 (Ms.drop ct) (shE E ct) (Ms.drop ct).length).1 (stK (stK ([], []) gr1 rt1 (Ms.take ct) (E.take ct) (Ms.take ct).length) gr2 rt2 (Ms.drop ct) (shE E ct) (Ms.drop ct).length).2) ∧ Hid (Nx wB we))
            case first =>
              go_region_with (first
                | (go_at_call 28; refine (HP2.out _ ?_).mono ?_; exact HNX.out.trans (Nx.drew _); rintro e wD ⟨p2, gr2, gu2, rt2, rfl, HPT2, hrt2', HND⟩)
                | (go_at_call 27; refine (HK2.out _ p2 gr2 gu2 rt2 ?_ HPT2.out).mono ?_; exact (Nx.drew _).trans HND.out; rintro e wE ⟨rfl, sv2, svs2, HWF, HKE⟩))
              go_wp2_with fail
              go_meet
              case rel => exact ⟨p2, gr2, gu2, rt2, sv2, svs2, by rw [hrt2', hxb], (HPT1.out.later ((Nx.drew _).trans HND.out)).framed HKE.out, HPT2.out.framed HKE.out, HWF, Below.trans ((HNX.out.trans (Nx.drew _)).trans HND.out) (HKE.out.below.mono (by rw [HB2.out]; exact Nat.le_refl _))⟩
            case rest =>
              clear HP2 HK2 hsb0 hsb1 hsb2 hsb4 HBD1 HWE HPT1 HNX HS4 HS5 HT4 HT5 HT0 HT1 HT2 HSH HCA HCB HLA HLB
              obtain ⟨p2, gr2, gu2, rt2, sv2, svs2, hr2, HQT1, HQT2, HWF, HNF⟩ := hcut
              have HAW := hid (HA2.out.later HNF.out)
              have HLW : Hid (Below w.heap.size w wc) := HL2.out.trans (HNF.out.mono HL2.out.size)
              have HALL := hid (alike_runs HF.out.ok HF.out.ends hct l0 (fun hh => HF.out.rates (by rw [← m3, ← hrt2]; exact hh)) (hrt1.trans hrt2.symm) (hr2.trans hrt2.symm) HAW.out.part HQT1.out HQT2.out)
              have HREL := hid (stG_rel (st := ([], [])) (st' := ([], [])) rfl (SpRel.nil (Alike wc)) (bOf Ms) Ms.length HALL.out)
              have HST := hid (parts_st HF.out.ok Ms HF.out.ends hct gr1 rt1 gr2 rt2)
              rw [← HST.out] at HREL
              have HQ2 : Hid ((names, sp) = stG ([], []) (bOf Ms) (qW gr rt E) Ms.length) := HQ1
              rw [← HQ2.out] at HREL
              have HINV := hid (invG (bOf Ms) (qW gr rt E) Ms.length)
              rw [← HQ2.out] at HINV
              clear HALL HST HQ1 HQ2 HQT1 HQT2
              generalize stK (stK ([], []) gr1 rt1 (Ms.take ct) (E.take ct) (Ms.take ct).length) gr2 rt2 (Ms.drop ct) (shE E ct) (Ms.drop ct).length = stP at HWF HREL
              obtain ⟨names2, sp2⟩ := stP
              have hnm : names = names2 := HREL.out.1
              subst hnm
              have HT : Hid (Two wc (base + 1) base base sv svs names sp (b2 + 1) b2 b2 sv2 svs2 names sp2) := ⟨HAW.out.work, HWF.out, rfl, HREL.out.2⟩
              have HC4 := hid HAW.out.c4
              have HI : Hid (InvG (bOf Ms) (qW gr rt E) Ms.length names sp) := HINV
              have HBB : Hid (Bd (names, sp) (0 + Ms.length)) := HBD
              have hlS : sp.length = dTo Ms Ms.length := by rw [dTo_dG]; exact HI.out.slen
              have hlN : names.length = dTo Ms Ms.length := by rw [dTo_dG]; exact HI.out.len
              have HLS := hid hlS; have HLN := hid hlN
              have hdl := dTo_le Ms Ms.length
              clear HREL HWF HAW HINV HBD hlS hlN HA2 HL2 HNF
              go_wp2_with fail
              refine (firsts29 x4 d4 Ms wc HC4.out l4).mono ?_
              rintro e wG ⟨gF, rfl, HRF, HNG⟩
              have HTG := hid (HT.out.later HNG.out)
              have HCG := hid (HC4.out.later HNG.out)
              have HLG : Hid (Below w.heap.size w wG) := HLW.out.trans (HNG.out.mono HLW.out.size)
              clear HT HC4 HLW HNG HRF
              go_wp2_with fail
              refine (spans30 HTG.out.one).mono ?_
              rintro e w11 ⟨rfl, hw11⟩
              have hw11 := hw11.symm
              subst hw11
              rw [HLS.out]
              go_wp2_with fail
              refine (members31 HTG.out.one).mono ?_
              rintro e w11 ⟨rfl, hw11⟩
              have hw11 := hw11.symm
              subst hw11
              rw [HLN.out]
              go_wp2_with fail
              go_loopw [24] (fun i wr => ∃ j : Nat, j ≤ Ms.length ∧ i = .int .i64 j ∧ Hid (wr = wG)) (fun i _ => Ms.length - (intOf i).toNat)
              case atStart => exact ⟨0, by omega, rfl, rfl⟩
              case round =>
                obtain ⟨j, hj, rfl, HWR⟩ := hrel
                rw [← HWR.out] at HTG HCG HLG
                by_cases h2 : j < Ms.length
                · have hj0 : (0 : Int) ≤ (j : Int) := by omega
                  have hj1 : (j : Int) < (Ms.length : Int) := by omega
                  obtain ⟨g4, o4, hx4, hc4⟩ := HCG.out j h2
                  subst hx4
                  have HSZ : Hid ((Ms.getD j ByteArray.empty).size ≤ maxLen) := Nat.le_trans (HF.out.short j h2) (by decide)
                  have HIN : Hid (names.contains (Ms.getD j ByteArray.empty).data.toList = true) := by
                    show _ = _
                    have := (HI.out.mem (bOf Ms j)).2 ⟨j, h2, rfl⟩
                    simpa [bOf] using this
                  have hpl : placeOf names (Ms.getD j ByteArray.empty).data.toList ≤ 4096 := by
                    have h5 : placeOf names (Ms.getD j ByteArray.empty).data.toList < names.length := idxOf_lt (by simpa using HIN.out)
                    have := HLN.out
                    omega
                  generalize Ms.getD j ByteArray.empty = y at *
                  go_wp2_with fail
                  refine (place32 HTG.out.one y HSZ.out HIN.out).mono ?_
                  rintro e w5 ⟨rfl, hw5⟩
                  have hw5 := hw5.symm
                  subst hw5
                  go_wp2_with fail
                  refine (place32 HTG.out.two y HSZ.out HIN.out).mono ?_
                  rintro e w5 ⟨rfl, hw5⟩
                  have hw5 := hw5.symm
                  subst hw5
                  go_wp2_with fail
                  go_roundw
                  case rel => exact ⟨j + 1, by omega, by go_num, HWR⟩
                  case measure => simp [intOf]; omega
                · obtain rfl : j = Ms.length := by omega
                  go_wp2_with fail
                  refine (same40 HTG.out (by have := HLS.out; omega) (by have := HLN.out; omega) (fun m => by have := HBB.out.each m; simp only [Nat.zero_add] at this; exact Nat.le_trans this (by omega))).mono ?_
                  rintro e w5 ⟨rfl, HNZ⟩
                  go_wp2_with fail
                  go_ret
                  exact ⟨rfl, HLG.out.trans (HNZ.out.mono HLG.out.size)⟩

end Go.Proofs.Qxb6003633a
