import Derived.Test.Qxb6600460aUnP
import Derived.Test.Qxb6600460aBig
import Derived.Test.Qxb6600460aTo
import Derived.Deep.AppendLies
namespace Go.Proofs.Qxb6600460a
open Go.RowKit
set_option linter.unusedVariables false

theorem info9 : (Try.prog.info? 9).map (fun i => (i.zero, i.size, i.bytes)) = some (some (.string ByteArray.empty), 1, 16) := by kernel_rfl
theorem starB_list : starB.toList = [42] := by rw [ByteArray.toList_eq]; rfl

/-- the union that is built so far -/
def UAt (w0 w : World) (uo : Option Addr) (c : Nat) (U : List ByteArray) : Prop := w.ownsRow w0.heap.size 9 1 (.slice uo U.length c) U.length (U.map Value.string)
theorem UAt.ss {w0 w : World} {uo : Option Addr} {c : Nat} {U : List ByteArray} (h : UAt w0 w uo c U) : Ss w uo U := by
  intro j hj
  rcases h.2 with ⟨_, h0⟩ | ⟨g, cap, cur, hv, hb, hg, hn, hm, hs, ht⟩
  · omega
  · injection hv with e1 e2 e3
    subst e1
    refine ⟨g, 0, rfl, ?_⟩
    rw [Nat.zero_add]
    unfold World.cell?
    rw [hg]
    show cur[j]? = _
    have : (cur.toList.take (U.length * 1))[j]? = (U.map Value.string)[j]? := by rw [ht]
    rw [List.getElem?_take_of_lt (by omega), Array.getElem?_toList] at this
    rw [this]
    simp [List.getD, hj]

theorem UAt.grown {w0 w6 : World} {V : List ByteArray} {y : ByteArray} {g c : Nat} (h : w6.ownsRow w0.heap.size 9 1 (.slice (some ⟨g, 0, none⟩) (V.length + 1) c) (V.length + 1) (V.map Value.string ++ [.string y])) : UAt w0 w6 (some ⟨g, 0, none⟩) c (V ++ [y]) := by
  unfold UAt
  rw [List.length_append, List.map_append]
  exact h
theorem nx_grown {w wr w6 : World} {vo : Option Addr} {e : Nat} {V : List ByteArray} {o : Obj} (hn : Nx w wr) (h : UAt w wr vo e V) (hg : (wr.alloc o).grownBy w6 (Value.slice vo V.length e).ownBlock) : Nx w w6 :=
  Below.grown (hn.trans (Nx.alloc _ _)) hg (Nat.le_trans hn.size (by simp)) (fun k hk => (World.ownsRow.lt h k hk).1)

set_option maxRecDepth 100000 in
set_option maxHeartbeats 4000000 in
theorem union_in (ao : Option Addr) (G : List Gr) (cap : Nat) (t s : ByteArray) (bo : Option Addr) (A : List ByteArray) (d : Nat) (w : World) (h : Gs w ao G) (h' : Ss w bo A) (hG : G.length ≤ 9223372036854775807) (hA : A.length ≤ 9223372036854775807) :
    Calls Try.prog 5 #[.slice ao G.length cap, .string t, .string s, .slice bo A.length d] w fun e w' => e = .returned (.bool true) ∧ Hid (Nx w w') := by
  have HB := hid (bytes12 ao G cap t s bo A d w h h' hG hA)
  have HW := hid (want9 0 t s bo A d w h' (by omega))
  have HC := hid h
  have HA := hid h'
  clear h h'
  go_enter Try.func5, Try.ntmps5
  go_wp2_with fail
  refine HB.out.mono ?_
  rintro e w' ⟨⟨b, rfl⟩, hw⟩
  have hw := hw.symm
  subst hw
  cases b with
  | false =>
    go_wp2_with fail
    go_ret
    exact ⟨rfl, hid (Nx.refl _)⟩
  | true =>
  by_cases g1 : G.length ≤ 65536
  case neg =>
    have c1 : decide ((G.length : Int) > 65536) = true := decide_eq_true (by omega)
    go_wp2_with fail
    go_ret
    exact ⟨rfl, hid (Nx.refl _)⟩
  have c1 : decide ((G.length : Int) > 65536) = false := decide_eq_false (by omega)
  by_cases g2 : A.length ≤ 65536
  case neg =>
    have c2 : decide ((A.length : Int) > 65536) = true := decide_eq_true (by omega)
    go_wp2_with fail
    go_ret
    exact ⟨rfl, hid (Nx.refl _)⟩
  have c2 : decide ((A.length : Int) > 65536) = false := decide_eq_false (by omega)
  go_wp2_with fail
  refine HW.out.mono ?_
  rintro e w' ⟨⟨m1, rfl, hm1, hm2⟩, hw⟩
  have hw := hw.symm
  subst hw
  clear hm2
  go_wp2_with fail
  refine (grants13 m1 ao G cap _ HC.out hm1).mono ?_
  rintro e w' ⟨⟨m2, rfl, hm3, hm4⟩, hw⟩
  have hw := hw.symm
  subst hw
  have HM := hid hm4
  clear hm4
  by_cases g3 : m2 ≤ 1048576
  case neg =>
    have c3 : decide ((m2 : Int) > 1048576) = true := decide_eq_true (by omega)
    go_wp2_with fail
    go_ret
    exact ⟨rfl, hid (Nx.refl _)⟩
  have c3 : decide ((m2 : Int) > 1048576) = false := decide_eq_false (by omega)
  have HT : Hid (tot G ≤ 1048576) := by have := HM.out g3; show tot G ≤ 1048576; omega
  clear HM HB HW
  go_wp2_with fail
  go_loopw [9, 10, 11] (fun v b i wr => ∃ (k : Nat) (U : List ByteArray) (uo : Option Addr) (c : Nat) (al : Bool), k ≤ G.length ∧ i = .int .i64 k ∧ v = .slice uo U.length c ∧ b = .bool al ∧ Hid (U = un t s (G.take k)) ∧ Hid (al = Lib.containsS U starB) ∧ Hid (UAt w wr uo c U) ∧ Hid (Nx w wr)) (fun _ _ i _ => G.length - (intOf i).toNat)
  case atStart => exact ⟨0, [], none, 0, false, by omega, rfl, rfl, rfl, hid (by simp [un]), hid rfl, hid (World.ownsRow_nil _ _ _ _), hid (Nx.refl _)⟩
  case round =>
    obtain ⟨k, U, uo, c, al, hk, rfl, rfl, rfl, HU, HAL, HO, HN⟩ := hrel
    by_cases h1 : k < G.length
    · have hk0 : (0 : Int) ≤ (k : Int) := by omega
      have hk1 : (k : Int) < (G.length : Int) := by omega
      obtain ⟨g, off, rfl, hcc⟩ := HC.out k h1
      obtain ⟨c0, c1, c2, c3⟩ := hcc.later HN.out
      have HUT := hid (un_take t s G k h1)
      have HLE := hid (un_take_len t s G (k + 1))
      have HWT := hid (wt_le G k h1)
      have HCW := hid hcc.2.2
      clear c3 hcc
      generalize G.getD k default = x at c0 c1 c2 HCW HUT HWT
      obtain ⟨xt, xn, xo, xc, L⟩ := x
      simp only at c0 c1 c2 HCW
      have hxn : xn.size ≤ 1048576 := by have h5 := HWT.out; have h6 := HT.out; unfold wt at h5; simp only at h5; omega
      have HR := hid (fun w => model14 xt xn t s w hxn)
      clear hxn
      have HCV : Hid (covs t s ⟨xt, xn, xo, xc, L⟩ = cov xt.data.toList xn.data.toList t.data.toList s.data.toList) := rfl
      generalize cov xt.data.toList xn.data.toList t.data.toList s.data.toList = cb at HR HCV
      rw [HCV.out] at HUT
      simp only at HUT
      go_wp2_with fail
      go_quiet ((go_at_call 14; exact Calls.quiet_of_same (HR.out _)))
      have HO2 : Hid (UAt w (wr.drewN nq) uo c U) := HO.out
      have HN2 : Hid (Nx w (wr.drewN nq)) := HN.out.trans (Nx.drewN _ _)
      cases cb with
      | false =>
        go_wp2_with fail
        go_roundw
        case rel => exact ⟨k + 1, U, uo, c, al, by omega, by go_num, rfl, rfl, hid (by have e1 := HUT.out; have e2 := HU.out; simp at e1; rw [e1, e2]), HAL, HO2, HN2⟩
        case measure => simp [intOf]; omega
      | true =>
        simp only [Bool.not_true]
        have k2 : (wr.drewN nq).cell? ⟨g, off + k * 3 + 2, none⟩ = some (.slice xo L.length xc) := c2
        have HU1 : Hid (un t s (G.take (k + 1)) = U ++ L) := by
          have e1 := HUT.out
          have e2 := HU.out
          simp only [if_true] at e1
          rw [← e2] at e1
          exact e1
        have HLE1 : Hid (U.length + L.length ≤ 1048576) := by
          have e1 := HLE.out
          have e2 := HT.out
          have e3 := HU1.out
          rw [e3, List.length_append] at e1
          show U.length + L.length ≤ 1048576
          omega
        have hLl : L.length ≤ 1048576 := by have := HLE1.out; omega
        clear c0 c1 c2 HO HN HUT HLE HU HCV HR HWT
        generalize wr.drewN nq = w2 at *
        clear wr
        have HCL := hid (HC.out.later HN2.out)
        obtain ⟨i9, hi9, hz9a, hz91, hz92⟩ := info_parts info9
        go_wp2_with fail
        go_loopw [9, 10, 12] (fun v b i wq => ∃ (j : Nat) (V : List ByteArray) (vo : Option Addr) (e : Nat) (am : Bool), j ≤ L.length ∧ i = .int .i64 j ∧ v = .slice vo V.length e ∧ b = .bool am ∧ Hid (V = U ++ L.take j) ∧ Hid (am = Lib.containsS V starB) ∧ Hid (UAt w wq vo e V) ∧ Hid (Nx w wq)) (fun _ _ i _ => L.length - (intOf i).toNat)
        case atStart => exact ⟨0, U, uo, c, al, by omega, rfl, rfl, rfl, hid (by simp), HAL, HO2, HN2⟩
        case round =>
          obtain ⟨j, V, vo, e, am, hj, rfl, rfl, rfl, HV, HAM, HO3, HN3⟩ := hrel
          have k3 := HN3.out.cell HCW.out.1
          clear k2
          by_cases h2 : j < L.length
          · obtain ⟨g', off', rfl, hd⟩ := (HCW.out.2.later HN3.out) j h2
            obtain ⟨y, hy⟩ : ∃ y, y = L.getD j ByteArray.empty := ⟨_, rfl⟩
            rw [← hy] at hd
            have HY := hid hy
            clear hy
            have hbd : V.length + 1 ≤ 1048576 := by
              have e1 := HLE1.out
              have e2 := congrArg List.length HV.out
              rw [List.length_append, List.length_take] at e2
              omega
            have hsz : w.heap.size ≤ wr.heap.size := HN3.out.size
            by_cases h3 : (y.toList == [42]) = true
            · have H3 := hid h3
              go_wp2_with (at_builtin; refine wpList_append_lies _ rfl _ _ 22 rfl w.heap.size 9 i9 (.string ByteArray.empty) 1 16 Try.underlying22 hi9 hz9a hz91 hz92 rfl (by decide) _ V.length (V.map Value.string) rfl (HO3.out.alloc _) ⟨wr.heap.size, 0, none⟩ 1 1 [.string y] rfl rfl (cell_one_new _ _ _) (by intro u hu; simp at hu; subst hu; rfl) (by decide) (by unfold maxLen; omega) (by omega) (by simp; omega) (wr.heap.size + 1) (by simp) ?_; intro g6 c6 w6 hown6 hgrow6 hat6 hlt6; have HO6 := hid (UAt.grown hown6); have HN6 := hid (nx_grown HN3.out HO3.out hgrow6); clear hown6 hgrow6 hat6 hlt6)
              go_roundw
              case rel =>
                refine ⟨j + 1, V ++ [y], some ⟨g6, 0, none⟩, c6, true, by omega, by go_num, by rw [List.length_append]; rfl, rfl, hid ?_, hid ?_, HO6, HN6⟩
                · rw [HV.out, take_succ_getD L ByteArray.empty j h2, ← HY.out, List.append_assoc]
                · rw [containsS_append, starB_list, H3.out, Bool.or_true]
              case measure => simp [intOf]; omega
            · have h3' : (y.toList == [42]) = false := by simpa using h3
              clear h3
              have H3 := hid h3'
              go_wp2_with (at_builtin; refine wpList_append_lies _ rfl _ _ 22 rfl w.heap.size 9 i9 (.string ByteArray.empty) 1 16 Try.underlying22 hi9 hz9a hz91 hz92 rfl (by decide) _ V.length (V.map Value.string) rfl (HO3.out.alloc _) ⟨wr.heap.size, 0, none⟩ 1 1 [.string y] rfl rfl (cell_one_new _ _ _) (by intro u hu; simp at hu; subst hu; rfl) (by decide) (by unfold maxLen; omega) (by omega) (by simp; omega) (wr.heap.size + 1) (by simp) ?_; intro g6 c6 w6 hown6 hgrow6 hat6 hlt6; have HO6 := hid (UAt.grown hown6); have HN6 := hid (nx_grown HN3.out HO3.out hgrow6); clear hown6 hgrow6 hat6 hlt6)
              go_roundw
              case rel =>
                refine ⟨j + 1, V ++ [y], some ⟨g6, 0, none⟩, c6, am, by omega, by go_num, by rw [List.length_append]; rfl, rfl, hid ?_, hid ?_, HO6, HN6⟩
                · rw [HV.out, take_succ_getD L ByteArray.empty j h2, ← HY.out, List.append_assoc]
                · rw [containsS_append, starB_list, H3.out, Bool.or_false, ← HAM.out]
              case measure => simp [intOf]; omega
          · obtain rfl : j = L.length := by omega
            go_wp2_with fail
            go_roundw
            case rel => exact ⟨k + 1, V, vo, e, am, by omega, by go_num, rfl, rfl, hid (by have e1 := HV.out; rw [List.take_length] at e1; rw [e1]; exact HU1.out.symm), HAM, HO3, HN3⟩
            case measure => simp [intOf]; omega
    · obtain rfl : k = G.length := by omega
      have HSZ : Hid (∀ k, k < G.length → (G.getD k default).nm.size ≤ 1048576 ∧ (G.getD k default).acts.length ≤ 1048576) := fun k hk => by
        have e1 := wt_le G k hk
        have e2 := HT.out
        unfold wt at e1
        omega
      have HU' : Hid (U = un t s G) := by
        have e1 := HU.out
        rw [List.take_length] at e1
        exact e1
      have hUl : U.length ≤ 1048576 := by
        have e1 := un_len t s G
        have e2 := HT.out
        rw [HU'.out]
        omega
      by_cases h4 : A.length = 0
      · obtain rfl : A = [] := List.eq_nil_of_length_eq_zero h4
        clear h4 c2
        have HGOT : Hid ((decide (0 < ([] : List ByteArray).length) && ([] : List ByteArray).all (fun a => G.any (gives t s a))) = false) := hid rfl
        go_wp2_with fail
        refine (to16 ao G cap wr (HC.out.later HN.out) (by omega)).mono ?_
        rintro e w1 ⟨⟨gb, rfl, HG1⟩, HN1⟩
        go_wp2_with fail
        refine (allow17 (some ⟨gb, 0, none⟩) G G.length t s bo [] d w1 HG1.out (HA.out.later (HN.out.trans HN1.out)) (by omega) (Nat.zero_le _) HSZ.out).mono ?_
        rw [HGOT.out]
        rintro e w2 ⟨rfl, HN2⟩
        go_wp2_with fail
        go_ret
        exact ⟨rfl, hid ((HN.out.trans HN1.out).trans HN2.out)⟩
      · have c4 : decide ((A.length : Int) > 0) = true := decide_eq_true (by omega)
        have H4 : Hid (0 < A.length) := hid (by omega)
        clear h4
        cases al with
        | true =>
          have HGOT : Hid ((decide (0 < A.length) && A.all (fun a => G.any (gives t s a))) = true) := got_star t s A G H4.out (by rw [← HU'.out]; exact HAL.out.symm)
          go_wp2_with fail
          refine (to16 ao G cap wr (HC.out.later HN.out) (by omega)).mono ?_
          rintro e w1 ⟨⟨gb, rfl, HG1⟩, HN1⟩
          go_wp2_with fail
          refine (allow17 (some ⟨gb, 0, none⟩) G G.length t s bo A d w1 HG1.out (HA.out.later (HN.out.trans HN1.out)) (by omega) (by omega) HSZ.out).mono ?_
          rw [HGOT.out]
          rintro e w2 ⟨rfl, HN2⟩
          go_wp2_with fail
          go_ret
          exact ⟨rfl, hid ((HN.out.trans HN1.out).trans HN2.out)⟩
        | false =>
          have HUA := HO.out.ss
          have HZ := hid (fun x => zzc15 uo U c x wr HUA (by omega))
          clear HUA
          go_wp2_with fail
          go_loopw [14, 15] (fun v i wq => ∃ k : Nat, k ≤ A.length ∧ i = .int .i64 k ∧ v = .bool true ∧ Hid (∀ j, j < k → Lib.containsS U (A.getD j ByteArray.empty) = true) ∧ wq = wr) (fun _ i _ => A.length - (intOf i).toNat)
          case atStart => exact ⟨0, by omega, rfl, rfl, hid (fun j hj => absurd hj (Nat.not_lt_zero _)), rfl⟩
          case round =>
            obtain ⟨k, hk2, rfl, rfl, HJ, rfl⟩ := hrel
            by_cases h5 : k < A.length
            · obtain ⟨g, off, rfl, hd⟩ := (HA.out.later HN.out) k h5
              obtain ⟨y, hy⟩ : ∃ y, y = A.getD k ByteArray.empty := ⟨_, rfl⟩
              rw [← hy] at hd
              have HY := hid hy
              clear hy
              go_wp2_with fail
              refine drop_w (HZ.out y) ?_
              generalize hb : Lib.containsS U y = b
              have HB := hid hb
              clear hb
              cases b with
              | true =>
                go_wp2_with fail
                go_roundw
                case rel =>
                  refine ⟨k + 1, by omega, by go_num, rfl, hid (fun j hj => ?_), by first | rfl | trivial⟩
                  by_cases e : j = k
                  · subst e
                    rw [← HY.out]
                    exact HB.out
                  · exact HJ.out j (by omega)
                case measure => simp [intOf]; omega
              | false =>
                have HGOT : Hid ((decide (0 < A.length) && A.all (fun a => G.any (gives t s a))) = false) := got_miss t s A G k h5 (by rw [← HU'.out]; exact HAL.out.symm) (by rw [← HU'.out, ← HY.out]; exact HB.out)
                go_wp2_with fail
                refine (to16 ao G cap wr (HC.out.later HN.out) (by omega)).mono ?_
                rintro e w1 ⟨⟨gb, rfl, HG1⟩, HN1⟩
                go_wp2_with fail
                refine (allow17 (some ⟨gb, 0, none⟩) G G.length t s _ A d w1 HG1.out (HA.out.later (HN.out.trans HN1.out)) (by omega) (by omega) HSZ.out).mono ?_
                rw [HGOT.out]
                rintro e w2 ⟨rfl, HN2⟩
                go_wp2_with fail
                go_ret
                exact ⟨rfl, hid ((HN.out.trans HN1.out).trans HN2.out)⟩
            · obtain rfl : k = A.length := by omega
              have HGOT : Hid ((decide (0 < A.length) && A.all (fun a => G.any (gives t s a))) = true) := got_all t s A G H4.out (by rw [← HU'.out]; exact HJ.out)
              go_wp2_with fail
              refine (to16 ao G cap wr (HC.out.later HN.out) (by omega)).mono ?_
              rintro e w1 ⟨⟨gb, rfl, HG1⟩, HN1⟩
              go_wp2_with fail
              refine (allow17 (some ⟨gb, 0, none⟩) G G.length t s bo A d w1 HG1.out (HA.out.later (HN.out.trans HN1.out)) (by omega) (by omega) HSZ.out).mono ?_
              rw [HGOT.out]
              rintro e w2 ⟨rfl, HN2⟩
              go_wp2_with fail
              go_ret
              exact ⟨rfl, hid ((HN.out.trans HN1.out).trans HN2.out)⟩

end Go.Proofs.Qxb6600460a
