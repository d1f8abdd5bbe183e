import Derived.Test.Qxb6003660aKey
namespace Go.Proofs.Qxb6003660a
open Go.RowKit

/-- v is a slice that reads L in w -/
def Reads8 (w : World) (v : Value) (L : List Int) : Prop :=
  (v = .slice none 0 0 ∧ L = []) ∨ ∃ g off cap, v = .slice (some ⟨g, off, none⟩) L.length cap ∧ L.length ≤ cap ∧ cap ≤ maxLen ∧ ∀ j, j < L.length → w.cell? ⟨g, off + j, none⟩ = some (.int .u8 (L.getD j 0))

theorem Own8.reads {w : World} {base : Nat} {v : Value} {L : List Int} (h : Own8 w base v L) : Reads8 w v L := by
  rcases h.2 with ⟨hv, hn⟩ | ⟨g, cap, cur, hv, hb, hg, hnc, hcm, hs, ht⟩
  · exact .inl ⟨hv, List.eq_nil_of_length_eq_zero hn⟩
  · refine .inr ⟨g, 0, cap, hv, hnc, hcm, fun j hj => ?_⟩
    have h2 : w.ownsRow base 5 1 (.slice (some ⟨g, 0, none⟩) L.length cap) L.length (L.map (Value.int .u8)) := by rw [← hv]; exact h
    rw [Nat.zero_add, h2.cellAt j (by omega)]
    simp [List.getD, hj]

def preB (S P : List Int) : Bool := P.isPrefixOf S

theorem preB_short {S P : List Int} (h : S.length < P.length) : preB S P = false := by
  unfold preB
  rw [Bool.eq_false_iff]
  intro e
  have := (List.isPrefixOf_iff_prefix.1 e).length_le
  omega
theorem preB_all {S P : List Int} (h : P.length ≤ S.length) (h2 : ∀ j, j < P.length → S.getD j 0 = P.getD j 0) : preB S P = true := by
  unfold preB
  rw [List.isPrefixOf_iff_prefix, List.prefix_iff_eq_take]
  apply List.ext_getElem
  · rw [List.length_take]; omega
  · intro i h3 h4
    have := h2 i h3
    rw [List.getElem_take]
    simp only [List.getD, List.getElem?_eq_getElem h3, List.getElem?_eq_getElem (show i < S.length by omega), Option.getD_some] at this
    exact this.symm
theorem preB_not {S P : List Int} {k : Nat} (hk : k < P.length) (h : S.getD k 0 ≠ P.getD k 0) : preB S P = false := by
  unfold preB
  rw [Bool.eq_false_iff]
  intro e
  obtain ⟨t, rfl⟩ := List.isPrefixOf_iff_prefix.1 e
  apply h
  simp [List.getD, List.getElem?_append_left hk]

set_option maxHeartbeats 400000 in
theorem hasPrefix_any (s p : Value) (S P : List Int) (w : World) (hs : Reads8 w s S) (hp : Reads8 w p P) :
    Calls Try.prog 13 #[s, p] w fun e w' => e = .returned (.bool (preB S P)) ∧ ∃ n, w' = w.drewN n := by
  have hsl : S.length ≤ maxLen := by
    rcases hs with ⟨_, h⟩ | ⟨_, _, _, _, h1, h2, _⟩
    · rw [h]; simp
    · omega
  have hpl : P.length ≤ maxLen := by
    rcases hp with ⟨_, h⟩ | ⟨_, _, _, _, h1, h2, _⟩
    · rw [h]; simp
    · omega
  obtain ⟨ao, n1, c1, hv1, hn1⟩ : ∃ ao n1 c1, s = .slice ao n1 c1 ∧ n1 = S.length := by
    rcases hs with ⟨h, h'⟩ | ⟨g, off, cap, h, _⟩
    · exact ⟨_, _, _, h, by rw [h']; rfl⟩
    · exact ⟨_, _, _, h, rfl⟩
  obtain ⟨bo, n2, c2, hv2, hn2⟩ : ∃ ao n1 c1, p = .slice ao n1 c1 ∧ n1 = P.length := by
    rcases hp with ⟨h, h'⟩ | ⟨g, off, cap, h, _⟩
    · exact ⟨_, _, _, h, by rw [h']; rfl⟩
    · exact ⟨_, _, _, h, rfl⟩
  unfold maxLen at hsl hpl
  by_cases h1 : S.length < P.length
  · have HF : Hid (preB S P = false) := preB_short h1
    clear hs hp
    subst hv1 hv2 hn1 hn2
    go_enter Try.func13, Try.ntmps13
    go_wp2
    go_ret
    exact ⟨ret_bool HF.out.symm, 0, rfl⟩
  · by_cases h2 : P.length = 0
    · have HF : Hid (preB S P = true) := preB_all (by omega) (fun j hj => by omega)
      clear hs hp
      subst hv1 hv2 hn1
      have h0 : n2 ≤ 0 := by omega
      have h00 : n2 ≤ S.length := by omega
      clear h2 hn2
      go_enter Try.func13, Try.ntmps13
      go_wp2
      refine wp_loop_rounds 1 ?_
      rw [rounds_succ]
      go_wp2
      go_ret
      exact ⟨ret_bool HF.out.symm, 0, rfl⟩
    · rcases hs with ⟨_, h⟩ | ⟨g, off, cap, rfl, hc1, hc2, hcs⟩
      · have h3 : S.length = 0 := by rw [h]; rfl
        omega
      rcases hp with ⟨_, h⟩ | ⟨g2, off2, cap2, rfl, hc3, hc4, hcp⟩
      · have h3 : P.length = 0 := by rw [h]; rfl
        omega
      have HCS := (show Hid _ from hcs)
      have HCP := (show Hid _ from hcp)
      clear hv1 hv2 hn1 hn2 hcs hcp
      go_enter Try.func13, Try.ntmps13
      go_wp2
      go_loopw [5] (fun i wr => ∃ k n : Nat, k ≤ P.length ∧ i = .int .i64 k ∧ Hid (wr = w.drewN n) ∧ Hid (∀ j, j < k → S.getD j 0 = P.getD j 0)) (fun i _ => P.length - (intOf i).toNat)
      case atStart => exact ⟨0, 0, by omega, rfl, rfl, fun j hj => by omega⟩
      case round =>
        obtain ⟨k, n, hk, rfl, HW, HR⟩ := hrel
        by_cases h3 : k < P.length
        · have e1 : wr.cell? ⟨g, off + k, none⟩ = some (.int .u8 (S.getD k 0)) := by rw [HW.out]; exact HCS.out k (by omega)
          have e2 : wr.cell? ⟨g2, off2 + k, none⟩ = some (.int .u8 (P.getD k 0)) := by rw [HW.out]; exact HCP.out k h3
          have hkS : k < S.length := by omega
          by_cases heq : S.getD k 0 = P.getD k 0
          · have HE := (show Hid _ from heq)
            obtain ⟨x, hx⟩ : ∃ x, x = S.getD k 0 := ⟨_, rfl⟩
            obtain ⟨y, hy⟩ : ∃ y, y = P.getD k 0 := ⟨_, rfl⟩
            rw [← hx, ← hy] at heq
            rw [← hx] at e1
            rw [← hy] at e2
            have hne : (x != y) = false := by simp [heq]
            clear hx hy heq
            go_wp2
            go_quiet (fail)
            go_wp2
            go_roundw
            case rel =>
              refine ⟨k + 1, n + nq, by omega, by go_num, by rw [HW.out, World.drewN_drewN]; rfl, fun j hj => ?_⟩
              by_cases hjk : j = k
              · subst hjk; exact HE.out
              · exact HR.out j (by omega)
            case measure => simp [intOf]; omega
          · have HF : Hid (preB S P = false) := preB_not h3 heq
            obtain ⟨x, hx⟩ : ∃ x, x = S.getD k 0 := ⟨_, rfl⟩
            obtain ⟨y, hy⟩ : ∃ y, y = P.getD k 0 := ⟨_, rfl⟩
            rw [← hx, ← hy] at heq
            rw [← hx] at e1
            rw [← hy] at e2
            have hne : (x != y) = true := by simp [heq]
            clear hx hy heq
            go_wp2
            go_quiet (fail)
            go_wp2
            go_ret
            exact ⟨ret_bool HF.out.symm, n + nq, by rw [HW.out, World.drewN_drewN]⟩
        · have HF : Hid (preB S P = true) := preB_all (by omega) (fun j hj => HR.out j (by omega))
          go_wp2
          go_ret
          exact ⟨ret_bool HF.out.symm, n, HW.out⟩

end Go.Proofs.Qxb6003660a
