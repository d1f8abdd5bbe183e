import Derived.Test.Qxb6003660aW2
import Derived.Test.Qxb6003660aLabels
namespace Go.Proofs.Qxb6003660a
open Go.RowKit

def zeroL : List Int := List.replicate 127 0
/-- block g is a row of the bytes L, under type t -/
def Row8 (w : World) (g t : Nat) (L : List Int) : Prop := w.heap[g]? = some (.cells (L.map (Value.int .u8)).toArray t (0, 0))
def zero127 : Array Value := (zeroL.map (Value.int .u8)).toArray
theorem zv57 (w : World) : Sem.run Try.prog (zeroValue 57) w = .ok (.agg zero127) w := by kernel_rfl

theorem Row8.cell {w : World} {g t : Nat} {L : List Int} (h : Row8 w g t L) (j : Nat) (hj : j < L.length) : w.cell? ⟨g, j, none⟩ = some (.int .u8 (L.getD j 0)) := by
  unfold Row8 at h
  simp [World.cell?, h, List.getD, hj]
theorem Row8.frozen {w : World} {g t : Nat} {L : List Int} (h : Row8 w g t L) (j : Nat) : w.frozen? ⟨g, j, none⟩ = false := frozen_of_row w g j _ t h
theorem Row8.set {w : World} {g t : Nat} {L : List Int} (h : Row8 w g t L) (j : Nat) (v : Int) : Row8 (w.setCell ⟨g, j, none⟩ (.int .u8 v)) g t (L.set j v) := by
  unfold Row8
  rw [heap_setCell_same w g j _ t _ h, List.setIfInBounds_toArray, List.map_set]

theorem byte_at (n : ByteArray) (A B : List UInt8) (x : UInt8) (o : Nat) (hA : A.length = o) (h : n.data.toList = A ++ x :: B) : ∃ ho : o < n.size, n[o] = x := by
  subst hA
  have hs : n.size = A.length + (B.length + 1) := by rw [← len_data, h]; simp
  refine ⟨by omega, ?_⟩
  have e : n.data.toList[A.length]? = some x := by rw [h]; simp
  have e2 : n.data.toList[A.length]? = some (n.data.toList[A.length]'(by rw [len_data]; omega)) := List.getElem?_eq_getElem _
  rw [e2] at e
  exact Option.some.inj e

def offAt (ls : List (List UInt8)) (c : Nat) : Nat := (encL (ls.take c)).length

theorem offAt_zero (ls : List (List UInt8)) : offAt ls 0 = 0 := rfl
theorem offAt_ge (ls : List (List UInt8)) (hg : Good ls) : ∀ c, c ≤ ls.length → 2 * c ≤ offAt ls c := by
  induction ls with
  | nil => intro c hc; simp at hc; subst hc; simp
  | cons l ls ih =>
    intro c hc
    cases c with
    | zero => simp
    | succ c =>
      have := ih hg.tail c (by simpa using hc)
      have h1 := hg l (List.mem_cons_self ..)
      unfold offAt at this ⊢
      simp [encL] at this ⊢
      omega
theorem split_at (ls : List (List UInt8)) (c : Nat) (hc : c < ls.length) : nm ls = encL (ls.take c) ++ (UInt8.ofNat ls[c].length :: (ls[c] ++ nm (ls.drop (c + 1)))) := by
  have e : ls = ls.take c ++ (ls[c] :: ls.drop (c + 1)) := by simp
  have e2 := congrArg nm e
  rw [nm_append, nm_cons] at e2
  exact e2
theorem at_label (n : ByteArray) (ls : List (List UInt8)) (c : Nat) (hn : n.data.toList = nm ls) (hg : Good ls) (h255 : n.size ≤ 255) (hc : c < ls.length) :
    ∃ ho : offAt ls c < n.size, 1 ≤ n[offAt ls c].toNat ∧ n[offAt ls c].toNat ≤ 63 ∧ offAt ls (c + 1) = offAt ls c + (1 + n[offAt ls c].toNat) ∧ offAt ls (c + 1) < n.size ∧ c ≤ 126 ∧ n[offAt ls c].toNat = ls[c].length := by
  have hs := split_at ls c hc
  rw [← hn] at hs
  obtain ⟨ho, e⟩ := byte_at n _ _ _ (offAt ls c) rfl hs
  have h1 := hg ls[c] (List.getElem_mem hc)
  have e2 : n[offAt ls c].toNat = ls[c].length := by rw [e, ofNat_toNat_small _ (by omega)]
  have h3 : offAt ls (c + 1) = offAt ls c + (1 + ls[c].length) := by
    unfold offAt
    rw [List.take_succ_eq_append_getElem hc, encL_append]
    simp [encL]; omega
  have h4 : n.size = offAt ls (c + 1) + (nm (ls.drop (c + 1))).length := by
    have := congrArg List.length hs
    rw [len_data] at this
    rw [this, h3]
    unfold offAt
    simp; omega
  have h5 := nm_len (ls.drop (c + 1))
  have h6 := offAt_ge ls hg c (by omega)
  exact ⟨ho, by omega, by omega, by omega, by omega, by omega, e2⟩
theorem at_end (n : ByteArray) (ls : List (List UInt8)) (hn : n.data.toList = nm ls) : ∃ ho : offAt ls ls.length < n.size, n[offAt ls ls.length].toNat = 0 := by
  have hs : n.data.toList = encL (ls.take ls.length) ++ (0 :: []) := by rw [hn, List.take_length]; rfl
  obtain ⟨ho, e⟩ := byte_at n _ _ _ (offAt ls ls.length) rfl hs
  exact ⟨ho, by rw [e]; rfl⟩

theorem set_starts {ls : List (List UInt8)} {L : List Int} {c : Nat} (hc : c < L.length) (h : ∀ t, t < c → L.getD t 0 = (offAt ls t : Int)) : ∀ t, t < c + 1 → (L.set c (offAt ls c : Int)).getD t 0 = (offAt ls t : Int) := by
  intro t ht
  by_cases e : t = c
  · subst e; simp [List.getD, hc]
  · have := h t (by omega)
    simp only [List.getD] at this ⊢
    rw [List.getElem?_set_ne (fun h => e h.symm)]
    exact this

set_option maxHeartbeats 400000 in
theorem labelStarts_any (n : ByteArray) (ls : List (List UInt8)) (g : Nat) (L : List Int) (w : World) (hn : n.data.toList = nm ls) (hg : Good ls) (h255 : n.size ≤ 255) (hL : L.length = 127) (hr : Row8 w g 57 L) :
    Calls Try.prog 38 #[.string n, .pointer (some ⟨g, 0, none⟩)] w fun e w' => e = .returned (.int .i64 (ls.length : Int)) ∧ ∃ L' : List Int, L'.length = 127 ∧ Row8 w' g 57 L' ∧ (∀ t, t < ls.length → L'.getD t 0 = (offAt ls t : Int)) ∧ Below g w w' ∧ w'.heap.size = w.heap.size := by
  have HN := (show Hid _ from hn); clear hn
  have HG := (show Hid _ from hg); clear hg
  have HR := (show Hid _ from hr); clear hr
  have HL := (show Hid _ from hL); clear hL
  go_enter Try.func38, Try.ntmps38
  go_wp2
  go_loopw [5, 6] (fun cnt i wr => ∃ c : Nat, c ≤ ls.length ∧ cnt = .int .i64 c ∧ i = .int .i64 (offAt ls c) ∧ ∃ L' : List Int, Hid (L'.length = 127) ∧ Hid (Row8 wr g 57 L') ∧ Hid (∀ t, t < c → L'.getD t 0 = (offAt ls t : Int)) ∧ Below g w wr ∧ Hid (wr.heap.size = w.heap.size)) (fun cnt _ _ => ls.length - (intOf cnt).toNat)
  case atStart => exact ⟨0, by omega, rfl, rfl, L, HL, HR, fun t ht => by omega, Below.refl _ _, rfl⟩
  case round =>
    obtain ⟨c, hc, rfl, rfl, L', HL', HR', HT, hb, HS⟩ := hrel
    by_cases h1 : c < ls.length
    · obtain ⟨ho, g1, g2, g3, g4, g5, g6⟩ := at_label n ls c HN.out HG.out h255 h1
      have HO := (show Hid _ from g3); clear g3 g6
      have hb0 : ((n[offAt ls c].toNat : Int) != 0) = true := by simp; omega
      have hcell := HR'.out.cell c (by rw [HL'.out]; omega)
      have hfz := HR'.out.frozen c
      generalize hoo : offAt ls c = o at *
      have HOO := (show Hid _ from hoo); clear hoo
      go_wp2
      go_roundw
      case rel =>
        refine ⟨c + 1, by omega, by go_num, by rw [HO.out]; go_num, L'.set c (o : Int), by show _ = _; rw [List.length_set]; exact HL'.out, HR'.out.set c _, ?_, hb.setCell (Nat.le_refl _) _, by show _ = _; rw [← HS.out]; simp [World.setCell]⟩
        have := set_starts (ls := ls) (L := L') (c := c) (by rw [HL'.out]; omega) HT.out
        rw [HOO.out] at this
        exact this
      case measure => simp [intOf]; omega
    · obtain ⟨ho, g1⟩ := at_end n ls HN.out
      obtain rfl : c = ls.length := by omega
      have hb0 : ((n[offAt ls ls.length].toNat : Int) != 0) = false := by simp [g1]
      clear g1
      generalize hoo : offAt ls ls.length = o at *
      have HOO := (show Hid _ from hoo); clear hoo
      go_wp2
      go_ret
      exact ⟨rfl, L', HL'.out, HR'.out, HT.out, hb, HS.out⟩

end Go.Proofs.Qxb6003660a
