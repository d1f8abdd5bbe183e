import Derived.Test.Qxb6600460aPlain
import Derived.Test.Qxb6600460aLib2
namespace Go.Proofs.Qxb6600460a
open Go.RowKit
set_option linter.unusedVariables false

theorem mk_size (l : List UInt8) : (⟨l.toArray⟩ : ByteArray).size = l.length := by simp [ByteArray.size]
theorem beq_data (a b : ByteArray) : (a.toList == b.toList) = (a.data.toList == b.data.toList) := by rw [ByteArray.toList_eq, ByteArray.toList_eq]

theorem cut27 (s : ByteArray) (w : World) (hs : s.size ≤ 9223372036854775807) :
    Calls Try.prog 27 #[.string s, .string ⟨#[42]⟩] w fun e w' => e = .returned (.tuple #[.string ⟨(Lib.trimSuffix s.data.toList [42]).toArray⟩, .bool (Lib.hasSuffix s.data.toList [42])]) ∧ w' = w := strings_CutSuffix s ⟨#[42]⟩ w hs
theorem suf28 (l : List UInt8) (w : World) (hs : l.length ≤ 9223372036854775807) :
    Calls Try.prog 28 #[.string ⟨l.toArray⟩, .string ⟨#[47]⟩] w fun e w' => e = .returned (.bool (Lib.hasSuffix l [47])) ∧ w' = w := strings_HasSuffix ⟨l.toArray⟩ ⟨#[47]⟩ w (by rw [mk_size]; exact hs)
theorem pre29 (s : ByteArray) (l : List UInt8) (w : World) :
    Calls Try.prog 29 #[.string s, .string ⟨l.toArray⟩] w fun e w' => e = .returned (.bool (Lib.hasPrefix s.data.toList l)) ∧ w' = w := strings_HasPrefix s ⟨l.toArray⟩ w

set_option maxHeartbeats 400000 in
theorem covers22 (a0 a1 b0 b1 : ByteArray) (ao bo : Option Addr) (n m c d : Nat) (w : World) (hs : a1.size ≤ 9223372036854775807) :
    Calls Try.prog 22 #[.agg #[.string a0, .string a1, .slice ao n c], .agg #[.string b0, .string b1, .slice bo m d]] w fun e w' => e = .returned (.bool (cov a0.data.toList a1.data.toList b0.data.toList b1.data.toList)) ∧ Hid (Nx w w') := by
  have HN : Hid (Nx w ((w.alloc (.cells #[.string a0, .string a1, .slice ao n c] 26)).alloc (.cells #[.string b0, .string b1, .slice bo m d] 26))) := hid ((Nx.alloc _ _).trans (Nx.alloc _ _))
  by_cases hT : (a0.toList == b0.toList) = true
  · have HT := hid hT
    have HC : Hid (∀ w, Calls Try.prog 27 #[.string a1, .string ⟨#[42]⟩] w _) := hid (fun w => cut27 a1 w hs)
    have hle : (Lib.trimSuffix a1.data.toList [42]).length ≤ 9223372036854775807 := Nat.le_trans (Lib.trimSuffix_le _ _) hs
    have HV : Hid (cov a0.data.toList a1.data.toList b0.data.toList b1.data.toList = if star a1.data.toList then decide ((Lib.trimSuffix a1.data.toList [42]).length < b1.data.toList.length) && Lib.hasPrefix b1.data.toList (Lib.trimSuffix a1.data.toList [42]) else (a1.data.toList == b1.data.toList)) := by
      have e := hT
      rw [beq_data] at e
      unfold Hid cov
      rw [e, Bool.true_and]
    unfold star at HV
    generalize cov a0.data.toList a1.data.toList b0.data.toList b1.data.toList = v at HV ⊢
    generalize Lib.trimSuffix a1.data.toList [42] = p at HC hle HV
    generalize Lib.hasSuffix a1.data.toList [42] = b at HC HV
    have HS := hid (fun w => suf28 p w hle)
    have HP := hid (fun w => pre29 b1 p w)
    clear hle hs
    go_enter Try.func22, Try.ntmps22
    go_wp2_with fail
    refine (HC.out _).mono ?_
    rintro e w' ⟨rfl, hw⟩
    have hw := hw.symm
    subst hw
    cases b with
    | false =>
      go_wp2_with fail
      go_ret
      refine ⟨ret_bool ?_, HN⟩
      rw [HV.out]
      simp [beq_data]
    | true =>
      go_wp2_with fail
      refine (HS.out _).mono ?_
      rintro e w' ⟨rfl, hw⟩
      have hw := hw.symm
      subst hw
      generalize Lib.hasSuffix p [47] = b2 at HV
      cases b2 with
      | false =>
        go_wp2_with fail
        go_ret
        refine ⟨ret_bool ?_, HN⟩
        rw [HV.out]
        simp [beq_data]
      | true =>
        by_cases hlt : p.length < b1.size
        · go_wp2_with fail
          refine (HP.out _).mono ?_
          rintro e w' ⟨rfl, hw⟩
          have hw := hw.symm
          subst hw
          go_wp2_with fail
          go_ret
          refine ⟨ret_bool ?_, HN⟩
          have h2 : p.length < b1.data.toList.length := hlt
          rw [HV.out]
          simp only [Bool.and_self, if_true, decide_eq_true h2, Bool.true_and]
        · go_wp2_with fail
          go_ret
          refine ⟨ret_bool ?_, HN⟩
          have h2 : ¬ p.length < b1.data.toList.length := hlt
          rw [HV.out]
          simp only [Bool.and_self, if_true, decide_eq_false h2, Bool.false_and]
  · have hT' : (a0.toList == b0.toList) = false := by simpa using hT
    clear hT
    have HT := hid hT'
    go_enter Try.func22, Try.ntmps22
    go_wp2_with fail
    go_ret
    refine ⟨ret_bool ?_, HN⟩
    have e := HT.out
    rw [beq_data] at e
    exact (cov_type e).symm

theorem pre23 (s p : ByteArray) (w : World) :
    Calls Try.prog 23 #[.string s, .string p] w fun e w' => e = .returned (.bool (Lib.hasPrefix s.data.toList p.data.toList)) ∧ w' = w := by
  have H := hid (Lib.hasPrefix_raw s p)
  generalize Lib.hasPrefix s.data.toList p.data.toList = v at H ⊢
  by_cases h : p.size ≤ s.size
  · have h1 : decide ((s.size : Int) ≥ (p.size : Int)) = true := decide_eq_true (by omega)
    go_enter Try.func23, Try.ntmps23
    go_wp2_with fail
    go_ret
    refine ⟨ret_bool ?_, rfl⟩
    rw [← H.out, decide_eq_true h, Bool.true_and]
  · go_enter Try.func23, Try.ntmps23
    go_wp2_with fail
    go_ret
    refine ⟨ret_bool ?_, rfl⟩
    rw [← H.out, decide_eq_false h, Bool.false_and]

theorem two_last (a : ByteArray) (n : Nat) (h : a.size = n + 2) : ∃ d x y, a.data.toList = d ++ [x, y] ∧ d.length = n := by
  have hl : a.data.toList.length = n + 2 := h
  generalize a.data.toList = l at hl ⊢
  refine ⟨l.take n, l[n]'(by omega), l[n + 1]'(by omega), ?_, by simp; omega⟩
  apply List.ext_getElem
  · simp; omega
  · intro i h1 h2
    by_cases hi : i < n
    · rw [List.getElem_append_left (by simp; omega)]
      simp
    · rw [List.getElem_append_right (by simp; omega)]
      have : i = n ∨ i = n + 1 := by omega
      have e : (l.take n).length = n := by simp; omega
      rcases this with rfl | rfl
      · simp [e]
      · simp [e]
theorem byte_at (a : ByteArray) (i : Nat) (h : i < a.size) (l : List UInt8) (hl : a.data.toList = l) (x : UInt8) (hx : l[i]? = some x) : a[i] = x := by
  subst hl
  have h2 : i < a.data.size := h
  have e : a[i] = a.data[i] := rfl
  rw [e]
  rw [Array.getElem?_toList, Array.getElem?_eq_getElem h2] at hx
  exact Option.some.inj hx
theorem two_cut (a : ByteArray) (n : Nat) (d : List UInt8) (x y : UInt8) (h : a.data.toList = d ++ [x, y]) (hd : d.length = n) : (a.extract 0 (n + 1)).data.toList = d ++ [x] := by
  rw [Lib.extract_eq, h, ← hd]
  have : d ++ [x, y] = (d ++ [x]) ++ [y] := by simp
  show ((d ++ [x, y]).drop 0).take (d.length + 1 - 0) = _
  rw [this, List.drop_zero]
  exact List.take_left' (by simp)
theorem byte_eq {x : UInt8} {n : Nat} (hn : n < 256) (h : ((x.toNat : Int) != (n : Int)) = false) : x = UInt8.ofNat n := by
  have h2 : x.toNat = n := by
    have := bne_eq_false_iff_eq.1 h
    omega
  rw [← h2]
  exact (UInt8.ofNat_toNat).symm
theorem byte_ne {x : UInt8} {n : Nat} (h : ((x.toNat : Int) != (n : Int)) = true) (hn : n < 256) : x ≠ UInt8.ofNat n := by
  rintro rfl
  have := bne_iff_ne.1 h
  apply this
  rw [UInt8.toNat_ofNat']
  congr 1
  omega

set_option maxHeartbeats 400000 in
theorem model14 (a0 a1 b0 b1 : ByteArray) (w : World) (hs : a1.size ≤ 1048576) :
    Calls Try.prog 14 #[.string a0, .string a1, .string b0, .string b1] w fun e w' => e = .returned (.bool (cov a0.data.toList a1.data.toList b0.data.toList b1.data.toList)) ∧ w' = w := by
  by_cases hT : (a0.toList == b0.toList) = true
  · by_cases hN : (a1.toList == b1.toList) = true
    · have HV : Hid (cov a0.data.toList a1.data.toList b0.data.toList b1.data.toList = true) := by
        have e := hT
        have e2 := hN
        rw [beq_data] at e e2
        exact cov_same e e2
      go_enter Try.func14, Try.ntmps14
      go_wp2_with fail
      go_ret
      exact ⟨ret_bool HV.out.symm, rfl⟩
    · have hN' : (a1.toList == b1.toList) = false := by simpa using hN
      clear hN
      by_cases h2 : a1.size < 2
      · go_enter Try.func14, Try.ntmps14
        go_wp2_with fail
        go_ret
        refine ⟨ret_bool ?_, rfl⟩
        rw [beq_data] at hT hN'
        refine (cov_plain hT hN' ?_).symm
        rintro ⟨d, hd⟩
        have := congrArg List.length hd
        simp at this
        have e : a1.data.size = a1.size := rfl
        omega
      · obtain ⟨n, hn⟩ : ∃ n, a1.size = n + 2 := ⟨a1.size - 2, by omega⟩
        obtain ⟨d, x, y, hd, hdl⟩ := two_last a1 n hn
        have hx : a1[n]'(by omega) = x := byte_at a1 n (by omega) _ hd x (by simp [← hdl])
        have hy : a1[n + 1]'(by omega) = y := byte_at a1 (n + 1) (by omega) _ hd y (by rw [List.getElem?_append_right (by omega)]; simp [hdl])
        have HE := hid (two_cut a1 n d x y hd hdl)
        have HT := hid hT
        have HN := hid hN'
        rw [beq_data] at HT HN
        have HD := hid hd
        clear hdl hd h2
        by_cases c1 : ((x.toNat : Int) != 47) = true
        · have C1 := hid c1
          go_enter Try.func14, Try.ntmps14
          go_wp2_with fail
          go_ret
          refine ⟨ret_bool ?_, rfl⟩
          refine (cov_plain HT.out HN.out ?_).symm
          rintro ⟨d', hd'⟩
          rw [HD.out] at hd'
          have := (List.append_inj' hd' rfl).2
          simp at this
          exact byte_ne (n := 47) C1.out (by omega) this.1
        · have c1' : ((x.toNat : Int) != 47) = false := by simpa using c1
          clear c1
          have C1 := hid c1'
          by_cases c2 : ((y.toNat : Int) != 42) = true
          · have C2 := hid c2
            go_enter Try.func14, Try.ntmps14
            go_wp2_with fail
            go_ret
            refine ⟨ret_bool ?_, rfl⟩
            refine (cov_plain HT.out HN.out ?_).symm
            rintro ⟨d', hd'⟩
            rw [HD.out] at hd'
            have := (List.append_inj' hd' rfl).2
            simp at this
            exact byte_ne (n := 42) C2.out (by omega) this.2
          · have c2' : ((y.toNat : Int) != 42) = false := by simpa using c2
            clear c2
            have C2 := hid c2'
            have HV : Hid (cov a0.data.toList a1.data.toList b0.data.toList b1.data.toList = (decide ((a1.extract 0 (n + 1)).data.toList.length < b1.data.toList.length) && Lib.hasPrefix b1.data.toList (a1.extract 0 (n + 1)).data.toList)) := by
              have e1 : x = 47 := byte_eq (n := 47) (by omega) C1.out
              have e2 : y = 42 := byte_eq (n := 42) (by omega) C2.out
              subst e1 e2
              have e3 := HE.out
              unfold Hid
              rw [e3]
              exact cov_star HT.out HD.out
            have hsz : (a1.extract 0 (n + 1)).data.toList.length = n + 1 := by
              rw [Lib.extract_eq]
              have : a1.data.toList.length = n + 2 := hn
              simp
              omega
            rw [hsz] at HV
            clear hsz
            generalize cov a0.data.toList a1.data.toList b0.data.toList b1.data.toList = v at HV ⊢
            by_cases hlt : n + 1 < b1.size
            · go_enter Try.func14, Try.ntmps14
              go_wp2_with fail
              refine (pre23 _ _ _).mono ?_
              rintro e w' ⟨rfl, hw⟩
              have hw := hw.symm
              subst hw
              go_wp2_with fail
              go_ret
              refine ⟨ret_bool ?_, rfl⟩
              have h2 : n + 1 < b1.data.toList.length := hlt
              rw [HV.out, decide_eq_true h2, Bool.true_and, HE.out, HD.out]
              have h3 : d ++ [x, y] = (d ++ [x]) ++ [y] := by simp
              rw [h3, List.dropLast_concat]
            · go_enter Try.func14, Try.ntmps14
              go_wp2_with fail
              go_ret
              refine ⟨ret_bool ?_, rfl⟩
              have h2 : ¬ n + 1 < b1.data.toList.length := hlt
              rw [HV.out, decide_eq_false h2, Bool.false_and]
  · have hT' : (a0.toList == b0.toList) = false := by simpa using hT
    clear hT
    go_enter Try.func14, Try.ntmps14
    go_wp2_with fail
    go_ret
    refine ⟨ret_bool ?_, rfl⟩
    rw [beq_data] at hT'
    exact (cov_type hT').symm

end Go.Proofs.Qxb6600460a
