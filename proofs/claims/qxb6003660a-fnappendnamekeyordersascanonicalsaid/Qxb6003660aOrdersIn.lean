import Derived.Test.Qxb6003660aRows
import Derived.Test.Qxb6003660aAgreeIn
import Derived.Test.Qxb6003660aCanonW
namespace Go.Proofs.Qxb6003660a
open Go.RowKit
set_option linter.unusedVariables false

theorem hid {p : Prop} (h : p) : Hid p := h

set_option maxHeartbeats 400000 in
theorem bytes5_yes (p x y : Option Addr) (n0 c0 n3 c3 n4 c4 : Nat) (a c : ByteArray) (w : World) (h : n0 + a.size + c.size + n3 + n4 ≤ 1048576) :
    Calls Try.prog 17 #[.slice p n0 c0, .string a, .string c, .slice x n3 c3, .slice y n4 c4] w fun e w' => e = .returned (.bool true) ∧ w' = w := by
  go_enter Try.func17, Try.ntmps17
  go_wp2
  go_ret
  exact ⟨rfl, rfl⟩

set_option maxHeartbeats 1000000 in
theorem bytes5_no (p x y : Option Addr) (n0 c0 n3 c3 n4 c4 : Nat) (a c : ByteArray) (w : World) (h : 1048576 < n0 + a.size + c.size + n3 + n4) (h0 : n0 ≤ 9223372036854775807) (h1 : a.size ≤ 9223372036854775807) (h2 : c.size ≤ 9223372036854775807) (h3 : n3 ≤ 9223372036854775807) (h4 : n4 ≤ 9223372036854775807) :
    Calls Try.prog 17 #[.slice p n0 c0, .string a, .string c, .slice x n3 c3, .slice y n4 c4] w fun e w' => e = .returned (.bool false) ∧ w' = w := by
  go_enter Try.func17, Try.ntmps17
  go_wp2
  all_goals (go_ret; exact ⟨rfl, rfl⟩)

/-- nothing old has turned -/
def Nx (w w' : World) : Prop := Below w.heap.size w w'
theorem Nx.trans {a b c : World} (h : Nx a b) (k : Nx b c) : Nx a c := Below.trans h (Below.mono k h.size)
theorem Nx.drewN (w : World) (n : Nat) : Nx w (w.drewN n) := ⟨rfl, rfl, rfl, Nat.le_refl _, fun _ _ => rfl⟩

theorem Rd.later {w w' : World} {v : Value} {L : List Int} (h : Rd w v L) (hb : Nx w w') : Rd w' v L := by
  rcases h with h1 | ⟨x, cap, hv, hc⟩
  · exact .inl h1
  · exact .inr ⟨x, cap, hv, fun j hj => (Below.cell hb (cell_lt (hc j hj))).trans (hc j hj)⟩

set_option maxHeartbeats 2000000 in
theorem orders_in (p x y : Option Addr) (c0 c3 c4 : Nat) (a c : ByteArray) (P X Y : List Int) (ls ms : List (List UInt8)) (w : World) (ht : P.length + a.size + c.size + X.length + Y.length ≤ 1048576)
    (hP : Rd w (.slice p P.length c0) P) (hX : Rd w (.slice x X.length c3) X) (hY : Rd w (.slice y Y.length c4) Y)
    (va : vName a.data.toList = true) (vc : vName c.data.toList = true) (hal : a.data.toList = nm ls) (hcl : c.data.toList = nm ms) (gl : Good ls) (gm : Good ms) (ha255 : a.size ≤ 255) (hc255 : c.size ≤ 255) :
    Calls Try.prog 4 #[.slice p P.length c0, .string a, .string c, .slice x X.length c3, .slice y Y.length c4] w fun e w' => e = .returned (.bool true) ∧ Below w.heap.size w w' := by
  have HP := hid (hP); clear hP
  have HX := hid (hX); clear hX
  have HY := hid (hY); clear hY
  have VA := hid (va); clear va
  have VC := hid (vc); clear vc
  have HAL := hid (hal); clear hal
  have HCL := hid (hcl); clear hcl
  have HGL := hid (gl); clear gl
  have HGM := hid (gm); clear gm
  have d0 : decide ((1048576 : Int) < (P.length : Int)) = false := by simp; omega
  have d1 : decide ((1048576 : Int) < (a.size : Int)) = false := by simp; omega
  have d2 : decide ((1048576 : Int) < (c.size : Int)) = false := by simp; omega
  have d3 : decide ((1048576 : Int) < (X.length : Int)) = false := by simp; omega
  have d4 : decide ((1048576 : Int) < (Y.length : Int)) = false := by simp; omega
  have d5 : decide ((1048576 : Int) < (P.length : Int) + (a.size : Int) + (c.size : Int) + (X.length : Int) + (Y.length : Int)) = false := by simp; omega
  go_enter Try.func4, Try.ntmps4
  go_wp2_with fail
  refine (bytes5_yes _ _ _ _ _ _ _ _ _ _ _ _ ht).mono ?_
  rintro e w' ⟨rfl, rfl⟩
  go_wp2_with fail
  refine (vname_b a _ (by omega) _ VA.out).mono ?_
  rintro e w' ⟨rfl, rfl⟩
  go_wp2_with fail
  refine (vname_b c _ (by omega) _ VC.out).mono ?_
  rintro e w' ⟨rfl, rfl⟩
  go_wp2_with fail
  refine (clone_any _ P _ HP.out (by omega)).mono ?_
  rintro e w1 ⟨po, cp, rfl, OP1, N1⟩
  go_wp2_with fail
  refine (clone_any _ X _ (HX.out.later N1.out) (by omega)).mono ?_
  rintro e w2 ⟨xo, cx, rfl, OX2, N2⟩
  go_wp2_with fail
  refine (clone_any _ Y _ (HY.out.later (Nx.trans N1.out N2.out)) (by omega)).mono ?_
  rintro e w3 ⟨yo, cy, rfl, OY3, N3⟩
  have OP3 := hid ((OP1.out.later N2.out).later N3.out)
  have OX3 := hid (OX2.out.later N3.out)
  have M3 : Hid (Nx w' w3) := Nx.trans (Nx.trans N1.out N2.out) N3.out
  clear HP HX HY OP1 OX2 N1 N2 N3
  go_wp2_with fail
  refine (clone_any _ P _ OP3.out.rd (by omega)).mono ?_
  rintro e w4 ⟨qo, cq, rfl, OQ4, N4⟩
  go_wp2_with fail
  refine (zzkey_shape a ls w3.heap.size _ P _ HAL.out HGL.out ha255 OQ4.out N4.out.size (by omega)).mono ?_
  rintro e w5 ⟨g1, K1, ck1, rfl, k1, k2, k3, k4, K5, OKA5, N5⟩
  have N35 : Hid (Nx w3 w5) := Below.trans N4.out N5.out
  have OP5 := hid (OP3.out.later N35.out)
  clear OQ4 N4 N5
  go_wp2_with fail
  refine (clone_any _ P _ OP5.out.rd (by omega)).mono ?_
  rintro e w6 ⟨ro, cr, rfl, OR6, N6⟩
  go_wp2_with fail
  refine (zzkey_shape c ms w5.heap.size _ P _ HCL.out HGM.out hc255 OR6.out N6.out.size (by omega)).mono ?_
  rintro e w7 ⟨g2, K2, ck2, rfl, l1, l2, l3, l4, L5, OKC7, N7⟩
  have N57 : Hid (Nx w5 w7) := Below.trans N6.out N7.out
  clear OR6 N6 N7
  go_wp2_with fail
  refine (canon_any a c ls ms _ HAL.out HGL.out ha255 HCL.out HGM.out hc255).mono ?_
  rintro e w8 ⟨rfl, N8⟩
  have OKA8 := hid ((OKA5.out.later N57.out).later N8.out)
  have OKC8 := hid (OKC7.out.later N8.out)
  have N38 : Hid (Nx w3 w8) := Nx.trans (Nx.trans N35.out N57.out) N8.out
  have OX8 := hid (OX3.out.later N38.out)
  have OY8 := hid (OY3.out.later N38.out)
  have M8 : Hid (Nx w' w8) := Nx.trans M3.out N38.out
  clear OKA5 OKC7 N8 N35 N57 N38 OP3 OP5 OX3 OY3 M3
  have law := orders_law ls ms P X Y
  have e0 : canonC (lw ls).reverse (lw ms).reverse = canonC (revL ls) (revL ms) := rfl
  rw [e0] at law
  clear e0
  generalize canonC (revL ls) (revL ms) = r at law ⊢
  have LAW := hid (law); clear law
  by_cases hr0 : r = 0
  · have hb0 : (r == 0) = true := by simp [hr0]
    have R1 : Hid (Reads8 w8 (.slice (some ⟨g1, 0, none⟩) K1 ck1) (P ++ key ls)) := OKA8.out.reads
    have R2 : Hid (Reads8 w8 (.slice (some ⟨g2, 0, none⟩) K2 ck2) (P ++ key ls)) := by
      rw [LAW.out.1 hr0]; exact OKC8.out.reads
    clear hr0
    go_wp2_with fail
    refine (bytesEqual_same _ _ _ _ R1.out R2.out).mono ?_
    rintro e w9 ⟨rfl, m9, rfl⟩
    go_wp2_with fail
    go_ret
    exact ⟨rfl, Nx.trans M8.out (Nx.drewN _ _)⟩
  · have hb0 : (r == 0) = false := by simp [hr0]
    have HL2 := hid (LAW.out.2 hr0)
    clear hr0 LAW
    go_wp2_with fail
    refine (concat_any _ _ _ _ _ OKA8.out.reads OX8.out.reads (by rw [← K5.out]; omega) (by omega)).mono ?_
    rintro e w9 ⟨g3, N3, rfl, E3, O9, B9⟩
    have OKC9 := hid (OKC8.out.later B9.out)
    have OY9 := hid (OY8.out.later B9.out)
    clear OKA8 OX8 OKC8 OY8
    go_wp2_with fail
    refine (concat_any _ _ _ _ _ OKC9.out.reads OY9.out.reads (by rw [← L5.out]; omega) (by omega)).mono ?_
    rintro e w10 ⟨g4, N4, rfl, E4, O10, B10⟩
    have O9' := hid (O9.out.later B10.out)
    go_wp2_with fail
    refine (bytesCompare_any _ _ _ _ _ O9'.out.reads O10.out.reads).mono ?_
    rintro e w11 ⟨rfl, m11, rfl⟩
    rw [HL2.out]
    go_wp2_with fail
    go_ret
    exact ⟨rfl, Nx.trans (Nx.trans (Nx.trans M8.out B9.out) B10.out) (Nx.drewN _ _)⟩

end Go.Proofs.Qxb6003660a
