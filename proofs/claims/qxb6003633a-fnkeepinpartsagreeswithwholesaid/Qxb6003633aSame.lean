import Derived.Test.Qxb6003633aSameP
import Derived.BigQuiet
namespace Go.Proofs.Qxb6003633a
open Go.RowKit Go.Maps
set_option linter.unusedVariables false

def RowCells (w : World) (ao : Option Addr) (n : Nat) (X Y Z : Nat → Int) : Prop :=
  ∀ j, j < n → ∃ g off, ao = some ⟨g, off, none⟩ ∧ w.cell? ⟨g, off + j * 3, none⟩ = some (.int .i32 (X j)) ∧ w.cell? ⟨g, off + j * 3 + 1, none⟩ = some (.int .u32 (Y j)) ∧ w.cell? ⟨g, off + j * 3 + 2, none⟩ = some (.int .i64 (Z j))
theorem RowCells.later {w w' : World} {ao : Option Addr} {n : Nat} {X Y Z : Nat → Int} (h : RowCells w ao n X Y Z) (hb : Nx w w') : RowCells w' ao n X Y Z := by
  intro j hj
  obtain ⟨g, off, e2, h1, h2, h3⟩ := h j hj
  exact ⟨g, off, e2, hb.cell h1, hb.cell h2, hb.cell h3⟩
def RateCells (w : World) (ro : Option Addr) (n : Nat) (f : Nat → Int) : Prop := ∀ j, j < n → ∃ g off, ro = some ⟨g, off, none⟩ ∧ w.cell? ⟨g, off + j, none⟩ = some (.int .i64 (f j))
theorem RateCells.later {w w' : World} {ro : Option Addr} {n : Nat} {f : Nat → Int} (h : RateCells w ro n f) (hb : Nx w w') : RateCells w' ro n f := by
  intro j hj
  obtain ⟨g, off, e2, h1⟩ := h j hj
  exact ⟨g, off, e2, hb.cell h1⟩
/-- both Works at hand -/
structure Two (w : World) (W1 bm1 base1 : Nat) (sv1 : Value) (svs1 : List Value) (names1 : List (List UInt8)) (sp1 : Sp) (W2 bm2 base2 : Nat) (sv2 : Value) (svs2 : List Value) (names2 : List (List UInt8)) (sp2 : Sp) : Prop where
  one : WorkAt w W1 bm1 base1 sv1 svs1 names1 sp1
  two : WorkAt w W2 bm2 base2 sv2 svs2 names2 sp2
  nlen : names1.length = names2.length
  rel : SpRel (Alike w) sp1 sp2
section
variable {w w' : World} {W1 bm1 base1 : Nat} {sv1 : Value} {svs1 : List Value} {names1 : List (List UInt8)} {sp1 : Sp} {W2 bm2 base2 : Nat} {sv2 : Value} {svs2 : List Value} {names2 : List (List UInt8)} {sp2 : Sp}
theorem Two.later (h : Two w W1 bm1 base1 sv1 svs1 names1 sp1 W2 bm2 base2 sv2 svs2 names2 sp2) (hb : Nx w w') : Two w' W1 bm1 base1 sv1 svs1 names1 sp1 W2 bm2 base2 sv2 svs2 names2 sp2 :=
  ⟨h.one.later hb, h.two.later hb, h.nlen, h.rel.mono fun a b hab => hab.later hb⟩

set_option maxRecDepth 100000 in
set_option maxHeartbeats 4000000 in
theorem same40 (h : Two w W1 bm1 base1 sv1 svs1 names1 sp1 W2 bm2 base2 sv2 svs2 names2 sp2) (hb1 : sp1.length ≤ 8192) (hb2 : names1.length ≤ 8192) (hb3 : ∀ m, (sp1.getD m []).length ≤ 8192) :
    Calls Try.prog 40 #[.pointer (some ⟨W1, 0, none⟩), .pointer (some ⟨W2, 0, none⟩)] w fun e w' => e = .returned (.bool true) ∧ Hid (Nx w w') := by
  have HT := hid h; clear h
  have HB3 := hid hb3; clear hb3
  obtain ⟨ns, hns⟩ : ∃ ns, ns = sp1.length := ⟨_, rfl⟩
  obtain ⟨nn, hnn⟩ : ∃ nn, nn = names1.length := ⟨_, rfl⟩
  rw [← hns] at hb1
  rw [← hnn] at hb2
  have HNS : Hid (sp1.length = ns) := hns.symm
  have HNS2 : Hid (sp2.length = ns) := by show _ = _; rw [hns, HT.out.rel.len]
  have HNN : Hid (names1.length = nn) := hnn.symm
  have HNN2 : Hid (names2.length = nn) := by show _ = _; rw [hnn, HT.out.nlen]
  clear hns hnn
  go_enter Try.func40, Try.ntmps40
  go_wp2_with fail
  refine (spans30 HT.out.one).mono ?_
  rintro e w1 ⟨rfl, hw⟩
  have hw := hw.symm
  subst hw
  rw [HNS.out]
  go_wp2_with fail
  refine (spans30 HT.out.two).mono ?_
  rintro e w1 ⟨rfl, hw⟩
  have hw := hw.symm
  subst hw
  rw [HNS2.out]
  go_wp2_with fail
  refine (members31 HT.out.two).mono ?_
  rintro e w1 ⟨rfl, hw⟩
  have hw := hw.symm
  subst hw
  rw [HNN2.out]
  go_wp2_with fail
  refine (members31 HT.out.one).mono ?_
  rintro e w1 ⟨rfl, hw⟩
  have hw := hw.symm
  subst hw
  rw [HNN.out]
  go_wp2_with fail
  have HX : Hid (Nx w w) := Nx.refl _
  go_loopw [6] (fun i wr => ∃ m : Nat, m ≤ ns ∧ i = .int .i64 m ∧ Hid (Two wr W1 bm1 base1 sv1 svs1 names1 sp1 W2 bm2 base2 sv2 svs2 names2 sp2) ∧ Hid (Nx w wr)) (fun i _ => ns - (intOf i).toNat)
  case atStart => exact ⟨0, by omega, rfl, HT, HX⟩
  case round =>
    obtain ⟨m, hm, rfl, HA, HN⟩ := hrel
    clear HT HX
    by_cases h1 : m < ns
    · have hm1 : m < sp1.length := by rw [HNS.out]; exact h1
      have hm2 : m < sp2.length := by rw [HNS2.out]; exact h1
      have hr := HA.out.rel.runs m
      have hr3 := HB3.out m
      obtain ⟨kn, hkn⟩ : ∃ kn, kn = (sp1.getD m []).length := ⟨_, rfl⟩
      rw [← hkn] at hr3
      have HK1 : Hid ((sp1.getD m []).length = kn) := hkn.symm
      have HK2 : Hid ((sp2.getD m []).length = kn) := by show _ = _; rw [hkn, hr]
      have HM1 := hid hm1; have HM2 := hid hm2
      clear hr hkn hm1 hm2
      go_wp2_with fail
      refine (runs33 HA.out.one m HM1.out).mono ?_
      rintro e w1 ⟨rfl, hw⟩
      have hw := hw.symm
      subst hw
      rw [HK1.out]
      go_wp2_with fail
      refine (runs33 HA.out.two m HM2.out).mono ?_
      rintro e w1 ⟨rfl, hw⟩
      have hw := hw.symm
      subst hw
      rw [HK2.out]
      go_wp2_with fail
      go_loopw [8] (fun i wr => ∃ k : Nat, k ≤ kn ∧ i = .int .i64 k ∧ Hid (Two wr W1 bm1 base1 sv1 svs1 names1 sp1 W2 bm2 base2 sv2 svs2 names2 sp2) ∧ Hid (Nx w wr)) (fun i _ => kn - (intOf i).toNat)
      case atStart => exact ⟨0, by omega, rfl, HA, HN⟩
      case round =>
        obtain ⟨k, hk, rfl, HB, HO⟩ := hrel
        clear HA HN
        by_cases h2 : k < kn
        · have hk1 : k < (sp1.getD m []).length := by rw [HK1.out]; exact h2
          have hk2 : k < (sp2.getD m []).length := by rw [HK2.out]; exact h2
          obtain ⟨n, X, Y, Z, R, hn, ⟨ao1, c1, e1, r1⟩, ⟨ro1, l1, d1, f1, t1, s1⟩, ⟨ao2, c2, e2, r2⟩, ⟨ro2, l2, d2, f2, t2, s2⟩⟩ := HB.out.rel.each m k hk1
          have HRA : Hid (RowCells wr ao1 n X Y Z ∧ RowCells wr ao2 n X Y Z) := ⟨r1, r2⟩
          have HS1 := hid s1; have HS2 := hid s2
          clear r1 r2 s1 s2
          have HK1' := hid hk1; have HK2' := hid hk2
          have HE1 := hid e1; have HE2 := hid e2; have HF1 := hid f1; have HF2 := hid f2
          have HT1 := hid t1; have HT2 := hid t2
          clear hk1 hk2 e1 e2 f1 f2 t1 t2
          go_wp2_with fail
          refine (runLen34 HB.out.one m k HM1.out HK1'.out ao1 n c1 HE1.out).mono ?_
          rintro e w1 ⟨rfl, hw⟩
          have hw := hw.symm
          subst hw
          go_wp2_with fail
          refine (runLen34 HB.out.two m k HM2.out HK2'.out ao2 n c2 HE2.out).mono ?_
          rintro e w1 ⟨rfl, hw⟩
          have hw := hw.symm
          subst hw
          go_wp2_with fail
          refine (hasRates35 HB.out.one m k HM1.out HK1'.out ro1 l1 d1 HF1.out).mono ?_
          rintro e w1 ⟨rfl, hw⟩
          have hw := hw.symm
          subst hw
          rw [HT1.out]
          go_wp2_with fail
          refine (hasRates35 HB.out.two m k HM2.out HK2'.out ro2 l2 d2 HF2.out).mono ?_
          rintro e w1 ⟨rfl, hw⟩
          have hw := hw.symm
          subst hw
          rw [HT2.out]
          cases R with
          | none =>
            have hR : (none : Option (Nat → Int)).isSome = false := rfl
            rw [hR]
            clear HS1 HS2 HT1 HT2
            go_wp2_with fail
            go_loopw [11] (fun i wr => ∃ j : Nat, j ≤ n ∧ i = .int .i64 j ∧ Hid (Two wr W1 bm1 base1 sv1 svs1 names1 sp1 W2 bm2 base2 sv2 svs2 names2 sp2) ∧ Hid (Nx w wr) ∧ Hid (RowCells wr ao1 n X Y Z ∧ RowCells wr ao2 n X Y Z)) (fun i _ => n - (intOf i).toNat)
            case atStart => exact ⟨0, by omega, rfl, HB, HO, HRA⟩
            case round =>
              obtain ⟨j, hj, rfl, HB3, HO3, HRA3⟩ := hrel
              clear HB HO HRA
              by_cases h3 : j < n
              · obtain ⟨ga, oa, hxa, hca⟩ := HRA3.out.1 j h3
                obtain ⟨gb, ob, hxb, hcb⟩ := HRA3.out.2 j h3
                have HCA := hid hca; have HXA := hid (HE1.out.trans (by rw [hxa])); clear hca
                have HXB := hid (HE2.out.trans (by rw [hxb])); clear hxa hxb hcb
                go_wp2_with fail
                refine (row37 HB3.out.one m k j HM1.out HK1'.out ga oa n c1 HXA.out h3 (X j) (Y j) (Z j) HCA.out.1 HCA.out.2.1 HCA.out.2.2).mono ?_
                rintro e w3 ⟨rfl, HNR⟩
                have HB4 := hid (HB3.out.later HNR.out)
                have HO4 := hid (HO3.out.trans HNR.out)
                have HRA4 := hid (And.intro (HRA3.out.1.later HNR.out) (HRA3.out.2.later HNR.out))
                clear HB3 HO3 HRA3 HNR HCA
                obtain ⟨gb', ob', hxb', hcb⟩ := HRA4.out.2 j h3
                have HCB := hid hcb; clear hcb
                have HXB' := hid (HE2.out.trans (by rw [hxb'])); clear hxb'
                go_wp2_with fail
                refine (row37 HB4.out.two m k j HM2.out HK2'.out gb' ob' n c2 HXB'.out h3 (X j) (Y j) (Z j) HCB.out.1 HCB.out.2.1 HCB.out.2.2).mono ?_
                rintro e w4 ⟨rfl, HNR⟩
                have HB5 := hid (HB4.out.later HNR.out)
                have HO5 := hid (HO4.out.trans HNR.out)
                have HRA5 := hid (And.intro (HRA4.out.1.later HNR.out) (HRA4.out.2.later HNR.out))
                clear HB4 HO4 HRA4 HNR HCB
                go_wp2_with fail
                go_roundw
                case rel => exact ⟨j + 1, by omega, by go_num, HB5, HO5, HRA5⟩
                case measure => simp [intOf]; omega
              · obtain rfl : j = n := by omega
                go_wp2_with fail
                go_roundw
                case rel => exact ⟨k + 1, by omega, by go_num, HB3, HO3⟩
                case measure => simp [intOf]; omega
          | some f =>
            have hR : (some f : Option (Nat → Int)).isSome = true := rfl
            rw [hR]
            obtain ⟨el1, q1⟩ := HS1.out f rfl
            obtain ⟨el2, q2⟩ := HS2.out f rfl
            have HRT : Hid (RateCells wr ro1 n f ∧ RateCells wr ro2 n f) := ⟨q1, q2⟩
            clear HS1 HS2 HT1 HT2 q1 q2
            have el1 := el1.symm
            have el2 := el2.symm
            subst el1 el2
            go_wp2_with fail
            refine (ratesLen36 HB.out.one m k HM1.out HK1'.out ro1 _ d1 HF1.out).mono ?_
            rintro e w1 ⟨rfl, hw⟩
            have hw := hw.symm
            subst hw
            go_wp2_with fail
            refine (ratesLen36 HB.out.two m k HM2.out HK2'.out ro2 _ d2 HF2.out).mono ?_
            rintro e w1 ⟨rfl, hw⟩
            have hw := hw.symm
            subst hw
            go_wp2_with fail
            go_loopw [11] (fun i wr => ∃ j : Nat, j ≤ n ∧ i = .int .i64 j ∧ Hid (Two wr W1 bm1 base1 sv1 svs1 names1 sp1 W2 bm2 base2 sv2 svs2 names2 sp2) ∧ Hid (Nx w wr) ∧ Hid (RowCells wr ao1 n X Y Z ∧ RowCells wr ao2 n X Y Z) ∧ Hid (RateCells wr ro1 n f ∧ RateCells wr ro2 n f)) (fun i _ => n - (intOf i).toNat)
            case atStart => exact ⟨0, by omega, rfl, HB, HO, HRA, HRT⟩
            case round =>
              obtain ⟨j, hj, rfl, HB3, HO3, HRA3, HRT3⟩ := hrel
              clear HB HO HRA HRT
              by_cases h3 : j < n
              · obtain ⟨ga, oa, hxa, hca⟩ := HRA3.out.1 j h3
                obtain ⟨gb, ob, hxb, hcb⟩ := HRA3.out.2 j h3
                have HCA := hid hca; have HXA := hid (HE1.out.trans (by rw [hxa])); clear hca
                have HXB := hid (HE2.out.trans (by rw [hxb])); clear hxa hxb hcb
                go_wp2_with fail
                refine (row37 HB3.out.one m k j HM1.out HK1'.out ga oa n c1 HXA.out h3 (X j) (Y j) (Z j) HCA.out.1 HCA.out.2.1 HCA.out.2.2).mono ?_
                rintro e w3 ⟨rfl, HNR⟩
                have HB4 := hid (HB3.out.later HNR.out)
                have HO4 := hid (HO3.out.trans HNR.out)
                have HRA4 := hid (And.intro (HRA3.out.1.later HNR.out) (HRA3.out.2.later HNR.out))
                have HRT4 := hid (And.intro (HRT3.out.1.later HNR.out) (HRT3.out.2.later HNR.out))
                clear HB3 HO3 HRA3 HNR HCA HRT3
                obtain ⟨gb', ob', hxb', hcb⟩ := HRA4.out.2 j h3
                have HCB := hid hcb; clear hcb
                have HXB' := hid (HE2.out.trans (by rw [hxb'])); clear hxb'
                go_wp2_with fail
                refine (row37 HB4.out.two m k j HM2.out HK2'.out gb' ob' n c2 HXB'.out h3 (X j) (Y j) (Z j) HCB.out.1 HCB.out.2.1 HCB.out.2.2).mono ?_
                rintro e w4 ⟨rfl, HNR⟩
                have HB5 := hid (HB4.out.later HNR.out)
                have HO5 := hid (HO4.out.trans HNR.out)
                have HRA5 := hid (And.intro (HRA4.out.1.later HNR.out) (HRA4.out.2.later HNR.out))
                have HRT5 := hid (And.intro (HRT4.out.1.later HNR.out) (HRT4.out.2.later HNR.out))
                clear HB4 HO4 HRA4 HNR HCB HRT4
                go_wp2_with fail
                obtain ⟨gq1, oq1, hxq1, hcq1⟩ := HRT5.out.1 j h3
                have HCQ1 := hid hcq1; clear hcq1
                have HXQ1 := hid (HF1.out.trans (by rw [hxq1])); clear hxq1
                refine (rate38 HB5.out.one m k j HM1.out HK1'.out gq1 oq1 n d1 HXQ1.out h3 (f j) HCQ1.out).mono ?_
                rintro e w5 ⟨rfl, hw⟩
                have hw := hw.symm
                subst hw
                go_wp2_with fail
                obtain ⟨gq2, oq2, hxq2, hcq2⟩ := HRT5.out.2 j h3
                have HCQ2 := hid hcq2; clear hcq2
                have HXQ2 := hid (HF2.out.trans (by rw [hxq2])); clear hxq2
                refine (rate38 HB5.out.two m k j HM2.out HK2'.out gq2 oq2 n d2 HXQ2.out h3 (f j) HCQ2.out).mono ?_
                rintro e w5 ⟨rfl, hw⟩
                have hw := hw.symm
                subst hw
                go_wp2_with fail
                go_roundw
                case rel => exact ⟨j + 1, by omega, by go_num, HB5, HO5, HRA5, HRT5⟩
                case measure => simp [intOf]; omega
              · obtain rfl : j = n := by omega
                go_wp2_with fail
                go_roundw
                case rel => exact ⟨k + 1, by omega, by go_num, HB3, HO3⟩
                case measure => simp [intOf]; omega
        · obtain rfl : k = kn := by omega
          go_wp2_with fail
          go_roundw
          case rel => exact ⟨m + 1, by omega, by go_num, HB, HO⟩
          case measure => simp [intOf]; omega
    · obtain rfl : m = ns := by omega
      go_wp2_with fail
      go_ret
      exact ⟨rfl, HN⟩
end

end Go.Proofs.Qxb6003633a
