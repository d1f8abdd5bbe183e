import Derived.Test.Qxb6003633aKeepP
namespace Go.Proofs.Qxb6003633a
open Go.RowKit Go.Maps
set_option linter.unusedVariables false
attribute [local go_sem ↓] exec_app Go.wp_at_zero Go.wp_at_succ

set_option maxRecDepth 100000 in
set_option maxHeartbeats 4000000 in
theorem keep_nil (W p bm base gr gu : Nat) (sv0 : Value) (svs0 : List Value) (st : List (List UInt8) × Sp) (M Li H R : List Int) (Ms : List ByteArray) (E : List Int) (w : World) (N : Nat)
    (hwork : WorkAt w W bm base sv0 svs0 st.1 st.2) (hpart : PartAt w p gr gu (.slice none 0 0) M Li H R true Ms E) (hE : E.length = Ms.length) (hok : EndsOk E M.length E.length) (hM : M.length ≤ 262144) (hMs : Ms.length ≤ 4096)
    (hshort : ∀ k, k < Ms.length → (Ms.getD k ByteArray.empty).size ≤ 1048576) (hbd : Bd st N) (hN : N ≤ 8192) :
    Calls Try.prog 42 #[.pointer (some ⟨W, 0, none⟩), .pointer (some ⟨p, 0, none⟩)] w fun e w' => e = .returned (.tuple #[]) ∧ ∃ sv svs, Hid (WorkAt w' W bm base sv svs (stK st gr none Ms E Ms.length).1 (stK st gr none Ms E Ms.length).2) ∧ Hid (KFrame base w w') := by
  have hz84 := zv84
  have hz90 := zv90
  have HWK := hid hwork; have HPT := hid hpart; have HOK := hid hok; have HSH := hid hshort; have HBD := hid hbd; have HEL := hid hE
  clear hwork hpart hok hshort hbd hE
  have p3 : w.cell? ⟨p, 3, none⟩ = some (.slice (some ⟨gu, 0, none⟩) Ms.length Ms.length) := by
    have := box_cells HPT.out.box 3
    simpa using this
  generalize hnn : M.length = n at *
  go_enter Try.func42, Try.ntmps42
  go_wp2
  clear p3
  go_loopw [4, 15] (fun f i wr => ∃ (k : Nat) (sv : Value) (svs : List Value), k ≤ Ms.length ∧ i = .int .i64 k ∧ f = .int .i64 ((fromAt E k : Nat) : Int) ∧ Hid (WorkAt wr W bm base sv svs (stK st gr none Ms E k).1 (stK st gr none Ms E k).2) ∧ Hid (KFrame base w wr)) (fun _ i _ => Ms.length - (intOf i).toNat)
  case atStart => exact ⟨0, sv0, svs0, by omega, rfl, rfl, HWK, KFrame.refl _ _⟩
  case round =>
    obtain ⟨i, sv, svs, hi, rfl, rfl, HWA, HKF⟩ := hrel
    by_cases h1 : i < Ms.length
    · have hi0 : (0 : Int) ≤ (i : Int) := by omega
      have hi1 : (i : Int) < (Ms.length : Int) := by omega
      have HP1 := hid (HPT.out.framed HKF.out)
      obtain ⟨e0, e1, e2, e3⟩ := HP1.out.runs i h1
      obtain ⟨n1, n2, n3, n4, n5⟩ := ends_nat HOK.out i (by rw [HEL.out]; exact h1)
      rw [n1] at e3
      clear n1 n2
      have hp0 := box_cells HP1.out.box 1
      have hp1 := box_cells HP1.out.box 2
      simp only [List.getElem?_toArray, List.getElem?_cons_succ, List.getElem?_cons_zero, hnn] at hp0 hp1
      have HSZ := hid (show (Ms.getD i ByteArray.empty).size ≤ maxLen by have := HSH.out i h1; unfold maxLen; omega)
      have HBI := hid (stK_bd HBD.out gr none Ms E i)
      have HNX := hid (stK_succ st gr none Ms E i)
      have HN5 := hid n5
      have HTP0 : Hid (Tag wr p 87) := ⟨_, HP1.out.box⟩
      clear n5 HP1
      generalize Ms.getD i ByteArray.empty = s at *
      generalize stK st gr none Ms E i = stk at *
      obtain ⟨names, sp⟩ := stk
      have HWB : Hid (WorkAt wr W bm base sv svs names sp) := HWA
      have hbs : names.length = sp.length := HBI.out.same
      have HBS := hid hbs
      have hbf : sp.length ≤ N + i := HBI.out.few
      have HBE : Hid (∀ i1, (sp.getD i1 []).length ≤ N + i) := HBI.out.each
      clear HWA HBI hbs
      generalize endAt E i = e at *
      generalize fromAt E i = fr at *
      obtain ⟨ao, capo, hsv⟩ : ∃ ao capo, sv = .slice ao sp.length capo := by
        rcases HWB.out.outer.2 with ⟨hv, h0⟩ | ⟨g, cap, cur, hv, _⟩
        · exact ⟨none, 0, by rw [hv, h0]⟩
        · exact ⟨_, cap, hv⟩
      subst hsv
      cases hin : names.contains s.data.toList
      case true =>
        have HIN := hid hin; clear hin
        go_wp2
        have HW1 : Hid (WorkAt (wr.alloc (Obj.cells #[Value.string s, Value.int IntKind.i64 0, Value.bool false, Value.int IntKind.i64 e] 84)) W bm base (.slice ao sp.length capo) svs names sp) := HWB.out.later (Nx.alloc _ _)
        have HK1 : Hid (KFrame base w (wr.alloc (Obj.cells #[Value.string s, Value.int IntKind.i64 0, Value.bool false, Value.int IntKind.i64 e] 84))) := HKF.out.nx HWB.out.hbase (Nx.alloc _ _)
        have c0 := box_cells HW1.out.box 2
        have c1 := box_cells HW1.out.box 3
        simp only [List.getElem?_toArray, List.getElem?_cons_succ, List.getElem?_cons_zero] at c0 c1
        have r0 : (wr.alloc (Obj.cells #[Value.string s, Value.int IntKind.i64 0, Value.bool false, Value.int IntKind.i64 e] 84)).cell? ⟨wr.heap.size, 0, none⟩ = some (.string s) := by simp
        have r3 : (wr.alloc (Obj.cells #[Value.string s, Value.int IntKind.i64 0, Value.bool false, Value.int IntKind.i64 e] 84)).cell? ⟨wr.heap.size, 3, none⟩ = some (.int .i64 e) := by simp
        have q0 := (Nx.alloc wr (Obj.cells #[Value.string s, Value.int IntKind.i64 0, Value.bool false, Value.int IntKind.i64 e] 84)).cell hp0
        have q1 := (Nx.alloc wr (Obj.cells #[Value.string s, Value.int IntKind.i64 0, Value.bool false, Value.int IntKind.i64 e] 84)).cell hp1
        have HTR1 : Hid (Tag (wr.alloc (Obj.cells #[Value.string s, Value.int IntKind.i64 0, Value.bool false, Value.int IntKind.i64 e] 84)) wr.heap.size 84) := Tag.made _ _ _
        generalize wr.alloc (Obj.cells #[Value.string s, Value.int IntKind.i64 0, Value.bool false, Value.int IntKind.i64 e] 84) = w1 at *
        clear e0 e1 e2 e3 hp0 hp1 HWB HKF
        generalize wr.heap.size = rb at *
        have hlk : ∀ nq, (Instr.lookup 73 (.map (some bm)) (.string s) true).run Try.prog (w1.drewN nq) = .ok (.tuple #[.int .i64 (placeOf names s.data.toList : Int), .bool true]) (w1.drewN nq) := fun nq => (HW1.out.map.of_block (w' := w1.drewN nq) rfl).look_yes s HSZ.out HIN.out
        go_quiet (fail)
        clear hlk
        go_wp2
        have HK2 : Hid (KFrame base w (w1.drewN nq)) := HK1.out.nx HW1.out.hbase (Nx.drewN _ _)
        have q2 : (w1.drewN nq).cell? ⟨p, 1, none⟩ = some (.slice (some ⟨gr, 0, none⟩) n n) := q0
        have q3 : (w1.drewN nq).cell? ⟨p, 2, none⟩ = some (.slice none 0 0) := q1
        have r4 : (w1.drewN nq).cell? ⟨rb, 3, none⟩ = some (.int .i64 e) := r3
        have HTR : Hid (Tag (w1.drewN nq) rb 84) := HTR1.out.later (Nx.drewN _ _)
        obtain ⟨m, hmm⟩ : ∃ m, placeOf names s.data.toList = m := ⟨_, rfl⟩
        obtain ⟨sv2, svs2, names2, sp2, HW2, c3, hm1, HFIN, hb1, hb2⟩ : ∃ sv2 svs2 names2 sp2, Hid (WorkAt (w1.drewN nq) W bm base sv2 svs2 names2 sp2) ∧ (w1.drewN nq).cell? ⟨W, 3, none⟩ = some sv2 ∧ m < sp2.length ∧ Hid (stK st gr none Ms E (i + 1) = (names2, sp2.set m (sp2.getD m [] ++ [spanOf gr none fr e]))) ∧ sp2.length ≤ 20000 ∧ (sp2.getD m []).length ≤ 20000 := by
          refine ⟨_, svs, names, sp, HW1.out.later (Nx.drewN _ _), c1, ?_, ?_, by omega, by have := HBE.out m; omega⟩
          · rw [← hmm, ← HBS.out]
            exact List.idxOf_lt_length_of_mem (by simpa using HIN.out)
          · show _ = _
            rw [HNX.out, stepK_old HIN.out, hmm]
        rw [hmm]
        clear hmm
        generalize w1.drewN nq = w2 at *
        clear HW1 HK1 c0 c1 q0 q1 r0 r3 HTR1 w1 HIN HNX HTP0
        have i0 : (0 : Int) ≤ (fr : Int) := by omega
        have i1 : (fr : Int) ≤ (e : Int) := by omega
        have i2 : (e : Int) ≤ (n : Int) := by omega
        have n1 := World.new_ne w2 _ q2
        have n2 := World.new_ne w2 _ r4
        go_region_held3 (fun w' => w'.cell? ⟨p, 1, none⟩ = some (.slice (some ⟨gr, 0, none⟩) n n) ∧ w'.cell? ⟨rb, 3, none⟩ = some (.int .i64 e)) (go_keep) (fail)
        generalize hro : (if e = fr then some (⟨gr, 0, none⟩ : Addr) else some ⟨gr, fr * 3, none⟩) = ro at *
        have HRO : Hid (cutA gr 3 fr e = ro) := hro
        clear hro
        have HNA : Hid (Nx w2 (w2.alloc (Obj.cells #[Value.slice ro (e - fr) (e - fr), Value.slice none 0 0] 90)).drew) := Nx.trans (Nx.alloc _ _) (Nx.drew' _)
        have s0 : (w2.alloc (Obj.cells #[Value.slice ro (e - fr) (e - fr), Value.slice none 0 0] 90)).drew.cell? ⟨w2.heap.size, 0, none⟩ = some (.slice ro (e - fr) (e - fr)) := by simp
        have s1 : (w2.alloc (Obj.cells #[Value.slice ro (e - fr) (e - fr), Value.slice none 0 0] 90)).drew.cell? ⟨w2.heap.size, 1, none⟩ = some (.slice none 0 0) := by simp
        have s2 : (w2.alloc (Obj.cells #[Value.slice ro (e - fr) (e - fr), Value.slice none 0 0] 90)).drew.frozen? ⟨w2.heap.size, 1, none⟩ = false := by simp
        have HSB : Hid (∀ g, (svs2.getD m undef).ownBlock = some g → g < w2.heap.size) := fun g hg => ((HW2.out.inner m hm1).lt g hg).2
        generalize (w2.alloc (Obj.cells #[Value.slice ro (e - fr) (e - fr), Value.slice none 0 0] 90)).drew = w3 at *
        have c4 := HNA.out.cell c3
        have q4 := HNA.out.cell q3
        have r5 := HNA.out.cell r4
        clear c3 q2 q3 r4
        have HSBE : Hid (w2.heap.size ≤ w2.heap.size) := Nat.le_refl _
        obtain ⟨sb, hsb⟩ : ∃ sb, sb = w2.heap.size := ⟨_, rfl⟩
        rw [← hsb] at n1 n2 s0 s1 s2 ⊢
        have HSBQ := hid hsb
        clear hsb HSBE
        have hq := run_neq_slice_nil_any (P := Try.prog) (t := 81) (e := 35) (h := Try.underlying81)
        go_wp2
        clear hq
        have HW3 : Hid (WorkAt w3 W bm base sv2 svs2 names2 sp2) := HW2.out.later HNA.out
        have HK3 : Hid (KFrame base w w3) := HK2.out.nx HW2.out.hbase HNA.out
        have HTR3 : Hid (Tag w3 rb 84) := HTR.out.later HNA.out
        clear HW2 HK2 HTR
        obtain ⟨go, capg, hsv, hgb, hglt⟩ := HW3.out.outer.form (by omega)
        subst hsv
        have g0 : w3.cell? ⟨go, m, none⟩ = some (svs2.getD m undef) := by
          rw [HW3.out.outer.cellAt m (by omega)]
          simp [List.getD, show m < svs2.length by rw [HW3.out.svs_len]; exact hm1]
        have f0 := HW3.out.outer.frozenAt m
        have j0 : (0 : Int) ≤ (m : Int) := by omega
        have j1 : (m : Int) < (sp2.length : Int) := by omega
        have HGT : Hid (Tag w3 go 88) := by obtain ⟨cs, hc, _⟩ := ownsRow_tag HW3.out.outer (g := go) rfl; exact ⟨cs, hc⟩
        have nrg : ¬ go = rb := Tag.ne HGT.out HTR3.out (by decide)
        obtain ⟨i9, hi9, hz9a, hz91, hz92⟩ := info_parts info90
        obtain ⟨g, cap, w4, hrun, hown, hgrow, hat, hlt⟩ := run_append_lies (P := Try.prog) ((w3.alloc (Obj.cells #[Value.slice ro (e - fr) (e - fr), Value.slice none 0 0] 90)).drew) 88 88 base 90 i9 _ 2 48 Try.underlying88 hi9 hz9a hz91 hz92 rfl (by decide) (svs2.getD m undef) (sp2.getD m []).length (flatS (sp2.getD m [])) ((HW3.out.inner m hm1).alloc _) ⟨w3.heap.size, 0, none⟩ 1 1 [Value.slice ro (e - fr) (e - fr), Value.slice none 0 0] rfl (two_new _ _ _ _) (slices_one _ _ _ _ _ _) (by decide) (by unfold maxLen; omega) (by omega) (by have := HW3.out.hbase; show base ≤ (w3.alloc _).heap.size; simp; omega) (w3.heap.size + 1) (by simp)
        clear hi9 hz9a hz91 hz92 hlt
        replace hrun := AppN_run hrun
        have HVB : Hid (∀ (b t : Nat), Tag w3 b t → t ≠ 90 → some b ≠ (svs2.getD m undef).ownBlock) := by
          intro b t ht hne e3
          obtain ⟨cs, hc, _⟩ := ownsRow_tag (HW3.out.inner m hm1) e3.symm
          exact Tag.ne ht ⟨cs, hc⟩ hne rfl
        have hnx3 : Nx w3 (w3.alloc (Obj.cells #[Value.slice ro (e - fr) (e - fr), Value.slice none 0 0] 90)).drew := Nx.trans (Nx.alloc _ _) (Nx.drew' _)
        have k0 : w4.cell? ⟨W, 3, none⟩ = some (.slice (some ⟨go, 0, none⟩) sp2.length capg) := hgrow.cell (hnx3.cell c4) (HVB.out W 76 ⟨_, HW3.out.box⟩ (by decide))
        have k1 : w4.cell? ⟨go, m, none⟩ = some (svs2.getD m undef) := hgrow.cell (hnx3.cell g0) (HVB.out go 88 HGT.out (by decide))
        have k2 : w4.frozen? ⟨go, m, none⟩ = false := by
          have h5 := HGT.out.later hnx3
          obtain ⟨cs, hc⟩ := h5
          exact frozen_of_row w4 go m cs 88 (by rw [hgrow.block go (lt_of_some hc) (HVB.out go 88 HGT.out (by decide))]; exact hc)
        have k3 : w4.cell? ⟨rb, 3, none⟩ = some (.int .i64 e) := hgrow.cell (hnx3.cell r5) (HVB.out rb 84 HTR3.out (by decide))
        have a0 : (w3.alloc (Obj.cells #[Value.slice ro (e - fr) (e - fr), Value.slice none 0 0] 90)).cell? ⟨W, 3, none⟩ = some (.slice (some ⟨go, 0, none⟩) sp2.length capg) := (Nx.alloc _ _).cell c4
        have a1 : (w3.alloc (Obj.cells #[Value.slice ro (e - fr) (e - fr), Value.slice none 0 0] 90)).cell? ⟨go, m, none⟩ = some (svs2.getD m undef) := (Nx.alloc _ _).cell g0
        have HGR : Hid ((w3.alloc (Obj.cells #[Value.slice ro (e - fr) (e - fr), Value.slice none 0 0] 90)).grownBy w4 (svs2.getD m undef).ownBlock) := ⟨hgrow.os, hgrow.tape, hgrow.output, hgrow.size, hgrow.block⟩
        have HWF := hid (HW3.out.grow_inner hm1 rfl HGR.out hown hat)
        have HFIN2 : Hid (stK st gr none Ms E (i + 1) = (names2, sp2.set m (sp2.getD m [] ++ [(Value.slice ro (e - fr) (e - fr), Value.slice none 0 0)]))) := by
          show _ = _
          rw [HFIN.out]
          rw [spanOf_none, HRO.out]
        have n3 := World.new_ne w3 _ c4
        have n4 := World.new_ne w3 _ g0
        have n5 := World.new_ne w3 _ s0
        clear HFIN HGR hown hgrow hat hnx3 HVB HSB HNA hgb hglt
        generalize hvm : svs2.getD m undef = vm at hrun g0 k1 a1
        clear hvm
        generalize (sp2.getD m []).length + 1 = nm at *
        go_region
        go_wp2
        go_roundw
        case rel => exact ⟨i + 1, _, _, by omega, by go_num, by rw [HN5.out], by rw [HFIN2.out]; exact HWF.out.1, HK3.out.trans HWF.out.2⟩
        case measure => simp [intOf]; omega
      case false =>
        have HIN := hid hin; clear hin
        go_wp2
        have HW1 : Hid (WorkAt (wr.alloc (Obj.cells #[Value.string s, Value.int IntKind.i64 0, Value.bool false, Value.int IntKind.i64 e] 84)) W bm base (.slice ao sp.length capo) svs names sp) := HWB.out.later (Nx.alloc _ _)
        have HK1 : Hid (KFrame base w (wr.alloc (Obj.cells #[Value.string s, Value.int IntKind.i64 0, Value.bool false, Value.int IntKind.i64 e] 84))) := HKF.out.nx HWB.out.hbase (Nx.alloc _ _)
        have c0 := box_cells HW1.out.box 2
        have c1 := box_cells HW1.out.box 3
        simp only [List.getElem?_toArray, List.getElem?_cons_succ, List.getElem?_cons_zero] at c0 c1
        have r0 : (wr.alloc (Obj.cells #[Value.string s, Value.int IntKind.i64 0, Value.bool false, Value.int IntKind.i64 e] 84)).cell? ⟨wr.heap.size, 0, none⟩ = some (.string s) := by simp
        have r3 : (wr.alloc (Obj.cells #[Value.string s, Value.int IntKind.i64 0, Value.bool false, Value.int IntKind.i64 e] 84)).cell? ⟨wr.heap.size, 3, none⟩ = some (.int .i64 e) := by simp
        have q0 := (Nx.alloc wr (Obj.cells #[Value.string s, Value.int IntKind.i64 0, Value.bool false, Value.int IntKind.i64 e] 84)).cell hp0
        have q1 := (Nx.alloc wr (Obj.cells #[Value.string s, Value.int IntKind.i64 0, Value.bool false, Value.int IntKind.i64 e] 84)).cell hp1
        have HTR1 : Hid (Tag (wr.alloc (Obj.cells #[Value.string s, Value.int IntKind.i64 0, Value.bool false, Value.int IntKind.i64 e] 84)) wr.heap.size 84) := Tag.made _ _ _
        have HTP1 : Hid (Tag (wr.alloc (Obj.cells #[Value.string s, Value.int IntKind.i64 0, Value.bool false, Value.int IntKind.i64 e] 84)) p 87) := HTP0.out.later (Nx.alloc _ _)
        clear HTP0
        generalize wr.alloc (Obj.cells #[Value.string s, Value.int IntKind.i64 0, Value.bool false, Value.int IntKind.i64 e] 84) = w1 at *
        clear e0 e1 e2 e3 hp0 hp1 HWB HKF
        generalize wr.heap.size = rb at *
        obtain ⟨cz, hlk⟩ := HW1.out.map.look_no_all s HSZ.out HIN.out
        go_quiet (fail)
        clear hlk
        go_wp2
        have HK2 : Hid (KFrame base w (w1.drewN nq)) := HK1.out.nx HW1.out.hbase (Nx.drewN _ _)
        have HW2 : Hid (WorkAt (w1.drewN nq) W bm base (.slice ao sp.length capo) svs names sp) := HW1.out.later (Nx.drewN _ _)
        have c2 : (w1.drewN nq).cell? ⟨W, 2, none⟩ = some (.map (some bm)) := c0
        have c3 : (w1.drewN nq).cell? ⟨W, 3, none⟩ = some (.slice ao sp.length capo) := c1
        have q2 : (w1.drewN nq).cell? ⟨p, 1, none⟩ = some (.slice (some ⟨gr, 0, none⟩) n n) := q0
        have q3 : (w1.drewN nq).cell? ⟨p, 2, none⟩ = some (.slice none 0 0) := q1
        have r2 : (w1.drewN nq).cell? ⟨rb, 0, none⟩ = some (.string s) := r0
        have r4 : (w1.drewN nq).cell? ⟨rb, 3, none⟩ = some (.int .i64 e) := r3
        have HTR : Hid (Tag (w1.drewN nq) rb 84) := HTR1.out.later (Nx.drewN _ _)
        have HTP2 : Hid (Tag (w1.drewN nq) p 87) := HTP1.out.later (Nx.drewN _ _)
        generalize w1.drewN nq = w2 at *
        have HTP : Hid (Tag w2 p 87) := HTP2
        clear HW1 HK1 c0 c1 q0 q1 r0 r3 HTR1 HTP1 w1 HTP2
        obtain ⟨w5, hput, hmap5, hgrow5⟩ := (HW2.out.map.of_block (w' := w2.drew) rfl).put s HSZ.out HIN.out (by have := HBS.out; omega)
        rw [HBS.out] at hput
        have HGR5 : Hid (w2.grownBy w5 (some bm)) := ⟨hgrow5.os, hgrow5.tape, hgrow5.output, hgrow5.size, hgrow5.block⟩
        have HM5 := hid hmap5
        clear hmap5 hgrow5
        go_region
        clear hput
        have HWK5 := hid (HW2.out.put HGR5.out HM5.out)
        have HW5 : Hid (WorkAt w5 W bm base (.slice ao sp.length capo) svs (names ++ [s.data.toList]) sp) := HWK5.out.1
        have c5 := box_cells HW5.out.box 3
        simp only [List.getElem?_toArray, List.getElem?_cons_succ, List.getElem?_cons_zero] at c5
        obtain ⟨i8, hi8, hz8a, hz81, hz82⟩ := info_parts info88
        have hb5 := HW5.out.hbase
        clear c2 c3 r2
        go_wp2_with (at_builtin; refine wpList_append_lies _ rfl _ _ 74 rfl base 88 i8 (.slice none 0 0) 1 24 Try.underlying74 hi8 hz8a hz81 hz82 rfl (by decide) _ sp.length svs rfl (HW5.out.outer.alloc _) ⟨w5.heap.size, 0, none⟩ 1 1 [.slice none 0 0] rfl rfl (cell_one_new _ _ _) (by intro u hu; simp at hu; subst hu; rfl) (by decide) (by unfold maxLen; omega) (by omega) (by simp; omega) (w5.heap.size + 1) (by simp) ?_; intro g cap w6 hown6 hgrow6 hat6 hlt6; have hbx : w6.heap[W]? = some (.cells #[.string ByteArray.empty, .bool false, .map (some bm), .slice ao sp.length capo] 76 (0, 0)) := outer_box HW5.out hgrow6; have k6 := box_cells hbx 3; simp only [List.getElem?_toArray, List.getElem?_cons_succ, List.getElem?_cons_zero] at k6; have f6 := frozen_of_row w6 W 3 _ 76 hbx; have HWO := hid (HW5.out.grow_outer hgrow6 hown6); clear hown6 hgrow6 hat6 hlt6 hbx)
        clear hi8 hz8a hz81 hz82 k6 f6
        have HKO : Hid (KFrame base w2 (w6.setCell ⟨W, 3, none⟩ (.slice (some ⟨g, 0, none⟩) (sp.length + 1) cap))) := HWK5.out.2.trans HWO.out.2
        have HK2b : Hid (KFrame base w (w6.setCell ⟨W, 3, none⟩ (.slice (some ⟨g, 0, none⟩) (sp.length + 1) cap))) := HK2.out.trans HKO.out
        have q2b := HKO.out.cell HTP.out (by decide) (by decide) (by decide) q2
        have q3b := HKO.out.cell HTP.out (by decide) (by decide) (by decide) q3
        have r4b := HKO.out.cell HTR.out (by decide) (by decide) (by decide) r4
        have HTRb := hid (HKO.out.tag' HTR.out (by decide) (by decide) (by decide))
        obtain ⟨m, hmm⟩ : ∃ m, sp.length = m := ⟨_, rfl⟩
        obtain ⟨sv2, svs2, names2, sp2, HW2b, c3, hm1, HFIN, hb1, hb2⟩ : ∃ sv2 svs2 names2 sp2, Hid (WorkAt (w6.setCell ⟨W, 3, none⟩ (.slice (some ⟨g, 0, none⟩) (sp.length + 1) cap)) W bm base sv2 svs2 names2 sp2) ∧ (w6.setCell ⟨W, 3, none⟩ (.slice (some ⟨g, 0, none⟩) (sp.length + 1) cap)).cell? ⟨W, 3, none⟩ = some sv2 ∧ m < sp2.length ∧ Hid (stK st gr none Ms E (i + 1) = (names2, sp2.set m (sp2.getD m [] ++ [spanOf gr none fr e]))) ∧ sp2.length ≤ 20000 ∧ (sp2.getD m []).length ≤ 20000 := by
          refine ⟨_, _, _, sp ++ [[]], HWO.out.1, ?_, ?_, ?_, ?_, ?_⟩
          · have := box_cells HWO.out.1.box 3
            simpa using this
          · rw [← hmm]; simp
          · show _ = _
            rw [HNX.out, stepK_new HIN.out, ← hmm]
          · simp; omega
          · rw [← hmm, getD_last _ _ _ _ rfl]; simp
        clear HW2 HK2 HTR q2 q3 r4 HWK5 HW5 c5 HWO HKO HTP
        generalize w6.setCell ⟨W, 3, none⟩ (.slice (some ⟨g, 0, none⟩) (sp.length + 1) cap) = w2b at *
        rw [hmm]
        clear hmm w2 w6 HIN HNX HGR5 HM5
        obtain ⟨w2, hw2⟩ : ∃ x : World, x = w2b := ⟨_, rfl⟩
        subst hw2
        have HK2 := HK2b; have HW2 := HW2b; have HTR := HTRb; have q2 := q2b; have q3 := q3b; have r4 := r4b
        clear HK2b HW2b HTRb q2b q3b r4b hb5
        have i0 : (0 : Int) ≤ (fr : Int) := by omega
        have i1 : (fr : Int) ≤ (e : Int) := by omega
        have i2 : (e : Int) ≤ (n : Int) := by omega
        have n1 := World.new_ne w2 _ q2
        have n2 := World.new_ne w2 _ r4
        go_region_held3 (fun w' => w'.cell? ⟨p, 1, none⟩ = some (.slice (some ⟨gr, 0, none⟩) n n) ∧ w'.cell? ⟨rb, 3, none⟩ = some (.int .i64 e)) (go_keep) (fail)
        generalize hro : (if e = fr then some (⟨gr, 0, none⟩ : Addr) else some ⟨gr, fr * 3, none⟩) = ro at *
        have HRO : Hid (cutA gr 3 fr e = ro) := hro
        clear hro
        have HNA : Hid (Nx w2 (w2.alloc (Obj.cells #[Value.slice ro (e - fr) (e - fr), Value.slice none 0 0] 90)).drew) := Nx.trans (Nx.alloc _ _) (Nx.drew' _)
        have s0 : (w2.alloc (Obj.cells #[Value.slice ro (e - fr) (e - fr), Value.slice none 0 0] 90)).drew.cell? ⟨w2.heap.size, 0, none⟩ = some (.slice ro (e - fr) (e - fr)) := by simp
        have s1 : (w2.alloc (Obj.cells #[Value.slice ro (e - fr) (e - fr), Value.slice none 0 0] 90)).drew.cell? ⟨w2.heap.size, 1, none⟩ = some (.slice none 0 0) := by simp
        have s2 : (w2.alloc (Obj.cells #[Value.slice ro (e - fr) (e - fr), Value.slice none 0 0] 90)).drew.frozen? ⟨w2.heap.size, 1, none⟩ = false := by simp
        have HSB : Hid (∀ g, (svs2.getD m undef).ownBlock = some g → g < w2.heap.size) := fun g hg => ((HW2.out.inner m hm1).lt g hg).2
        generalize (w2.alloc (Obj.cells #[Value.slice ro (e - fr) (e - fr), Value.slice none 0 0] 90)).drew = w3 at *
        have c4 := HNA.out.cell c3
        have q4 := HNA.out.cell q3
        have r5 := HNA.out.cell r4
        clear c3 q2 q3 r4
        have HSBE : Hid (w2.heap.size ≤ w2.heap.size) := Nat.le_refl _
        obtain ⟨sb, hsb⟩ : ∃ sb, sb = w2.heap.size := ⟨_, rfl⟩
        rw [← hsb] at n1 n2 s0 s1 s2 ⊢
        have HSBQ := hid hsb
        clear hsb HSBE
        have hq := run_neq_slice_nil_any (P := Try.prog) (t := 81) (e := 35) (h := Try.underlying81)
        go_wp2
        clear hq
        have HW3 : Hid (WorkAt w3 W bm base sv2 svs2 names2 sp2) := HW2.out.later HNA.out
        have HK3 : Hid (KFrame base w w3) := HK2.out.nx HW2.out.hbase HNA.out
        have HTR3 : Hid (Tag w3 rb 84) := HTR.out.later HNA.out
        clear HW2 HK2 HTR
        obtain ⟨go, capg, hsv, hgb, hglt⟩ := HW3.out.outer.form (by omega)
        subst hsv
        have g0 : w3.cell? ⟨go, m, none⟩ = some (svs2.getD m undef) := by
          rw [HW3.out.outer.cellAt m (by omega)]
          simp [List.getD, show m < svs2.length by rw [HW3.out.svs_len]; exact hm1]
        have f0 := HW3.out.outer.frozenAt m
        have j0 : (0 : Int) ≤ (m : Int) := by omega
        have j1 : (m : Int) < (sp2.length : Int) := by omega
        have HGT : Hid (Tag w3 go 88) := by obtain ⟨cs, hc, _⟩ := ownsRow_tag HW3.out.outer (g := go) rfl; exact ⟨cs, hc⟩
        have nrg : ¬ go = rb := Tag.ne HGT.out HTR3.out (by decide)
        obtain ⟨i9, hi9, hz9a, hz91, hz92⟩ := info_parts info90
        obtain ⟨g, cap, w4, hrun, hown, hgrow, hat, hlt⟩ := run_append_lies (P := Try.prog) ((w3.alloc (Obj.cells #[Value.slice ro (e - fr) (e - fr), Value.slice none 0 0] 90)).drew) 88 88 base 90 i9 _ 2 48 Try.underlying88 hi9 hz9a hz91 hz92 rfl (by decide) (svs2.getD m undef) (sp2.getD m []).length (flatS (sp2.getD m [])) ((HW3.out.inner m hm1).alloc _) ⟨w3.heap.size, 0, none⟩ 1 1 [Value.slice ro (e - fr) (e - fr), Value.slice none 0 0] rfl (two_new _ _ _ _) (slices_one _ _ _ _ _ _) (by decide) (by unfold maxLen; omega) (by omega) (by have := HW3.out.hbase; show base ≤ (w3.alloc _).heap.size; simp; omega) (w3.heap.size + 1) (by simp)
        clear hi9 hz9a hz91 hz92 hlt
        replace hrun := AppN_run hrun
        have HVB : Hid (∀ (b t : Nat), Tag w3 b t → t ≠ 90 → some b ≠ (svs2.getD m undef).ownBlock) := by
          intro b t ht hne e3
          obtain ⟨cs, hc, _⟩ := ownsRow_tag (HW3.out.inner m hm1) e3.symm
          exact Tag.ne ht ⟨cs, hc⟩ hne rfl
        have hnx3 : Nx w3 (w3.alloc (Obj.cells #[Value.slice ro (e - fr) (e - fr), Value.slice none 0 0] 90)).drew := Nx.trans (Nx.alloc _ _) (Nx.drew' _)
        have k0 : w4.cell? ⟨W, 3, none⟩ = some (.slice (some ⟨go, 0, none⟩) sp2.length capg) := hgrow.cell (hnx3.cell c4) (HVB.out W 76 ⟨_, HW3.out.box⟩ (by decide))
        have k1 : w4.cell? ⟨go, m, none⟩ = some (svs2.getD m undef) := hgrow.cell (hnx3.cell g0) (HVB.out go 88 HGT.out (by decide))
        have k2 : w4.frozen? ⟨go, m, none⟩ = false := by
          have h5 := HGT.out.later hnx3
          obtain ⟨cs, hc⟩ := h5
          exact frozen_of_row w4 go m cs 88 (by rw [hgrow.block go (lt_of_some hc) (HVB.out go 88 HGT.out (by decide))]; exact hc)
        have k3 : w4.cell? ⟨rb, 3, none⟩ = some (.int .i64 e) := hgrow.cell (hnx3.cell r5) (HVB.out rb 84 HTR3.out (by decide))
        have a0 : (w3.alloc (Obj.cells #[Value.slice ro (e - fr) (e - fr), Value.slice none 0 0] 90)).cell? ⟨W, 3, none⟩ = some (.slice (some ⟨go, 0, none⟩) sp2.length capg) := (Nx.alloc _ _).cell c4
        have a1 : (w3.alloc (Obj.cells #[Value.slice ro (e - fr) (e - fr), Value.slice none 0 0] 90)).cell? ⟨go, m, none⟩ = some (svs2.getD m undef) := (Nx.alloc _ _).cell g0
        have HGR : Hid ((w3.alloc (Obj.cells #[Value.slice ro (e - fr) (e - fr), Value.slice none 0 0] 90)).grownBy w4 (svs2.getD m undef).ownBlock) := ⟨hgrow.os, hgrow.tape, hgrow.output, hgrow.size, hgrow.block⟩
        have HWF := hid (HW3.out.grow_inner hm1 rfl HGR.out hown hat)
        have HFIN2 : Hid (stK st gr none Ms E (i + 1) = (names2, sp2.set m (sp2.getD m [] ++ [(Value.slice ro (e - fr) (e - fr), Value.slice none 0 0)]))) := by
          show _ = _
          rw [HFIN.out]
          rw [spanOf_none, HRO.out]
        have n3 := World.new_ne w3 _ c4
        have n4 := World.new_ne w3 _ g0
        have n5 := World.new_ne w3 _ s0
        clear HFIN HGR hown hgrow hat hnx3 HVB HSB HNA hgb hglt
        generalize hvm : svs2.getD m undef = vm at hrun g0 k1 a1
        clear hvm
        generalize (sp2.getD m []).length + 1 = nm at *
        go_region
        go_wp2
        go_roundw
        case rel => exact ⟨i + 1, _, _, by omega, by go_num, by rw [HN5.out], by rw [HFIN2.out]; exact HWF.out.1, HK3.out.trans HWF.out.2⟩
        case measure => simp [intOf]; omega
    · obtain rfl : i = Ms.length := by omega
      go_wp2
      go_end0
      exact ⟨rfl, sv, svs, HWA, HKF⟩

end Go.Proofs.Qxb6003633a
