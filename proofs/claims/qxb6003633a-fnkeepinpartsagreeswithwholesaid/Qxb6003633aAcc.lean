import Derived.Test.Qxb6003633aKeepP
namespace Go.Proofs.Qxb6003633a
open Go.RowKit Go.Maps
set_option linter.unusedVariables false

def noSpan : Value × Value := (.slice none 0 0, .slice none 0 0)

theorem flatS_len (l : List (Value × Value)) : (flatS l).length = l.length * 2 := by
  induction l with
  | nil => rfl
  | cons p l ih => simp [flatS] at ih ⊢; omega
theorem flatS_at (l : List (Value × Value)) (k : Nat) (hk : k < l.length) : (flatS l)[k * 2]? = some (l.getD k noSpan).1 ∧ (flatS l)[k * 2 + 1]? = some (l.getD k noSpan).2 := by
  induction l generalizing k with
  | nil => simp at hk
  | cons p l ih =>
    cases k with
    | zero => simp [flatS]
    | succ k =>
      have := ih k (by simpa using hk)
      have e : flatS (p :: l) = p.1 :: p.2 :: flatS l := by simp [flatS]
      rw [e]
      have e1 : (k + 1) * 2 = k * 2 + 1 + 1 := by omega
      have e2 : (k + 1) * 2 + 1 = (k * 2 + 1) + 1 + 1 := by omega
      rw [e1, List.getElem?_cons_succ, List.getElem?_cons_succ, List.getElem?_cons_succ, List.getElem?_cons_succ]
      simpa [List.getD] using this

theorem WorkAt.mems {w : World} {W bm base : Nat} {sv : Value} {svs : List Value} {names : List (List UInt8)} {sp : Sp} (h : WorkAt w W bm base sv svs names sp) :
    w.cell? ⟨W, 2, none⟩ = some (.map (some bm)) ∧ w.cell? ⟨W, 3, none⟩ = some sv ∧ ∃ ao capo, sv = .slice ao sp.length capo := by
  have h2 := box_cells h.box 2
  have h3 := box_cells h.box 3
  refine ⟨by simpa using h2, by simpa using h3, ?_⟩
  rcases h.outer.2 with ⟨hv, h0⟩ | ⟨g, cap, cur, hv, _⟩
  · exact ⟨none, 0, by rw [hv, h0]⟩
  · exact ⟨_, cap, hv⟩
theorem WorkAt.member {w : World} {W bm base : Nat} {sv : Value} {svs : List Value} {names : List (List UInt8)} {sp : Sp} (h : WorkAt w W bm base sv svs names sp) {m : Nat} (hm : m < sp.length) :
    ∃ go capo ao capi, w.cell? ⟨W, 3, none⟩ = some (.slice (some ⟨go, 0, none⟩) sp.length capo) ∧ w.cell? ⟨go, m, none⟩ = some (.slice ao (sp.getD m []).length capi) ∧
      ∀ k, k < (sp.getD m []).length → ∃ gi, ao = some ⟨gi, 0, none⟩ ∧ w.cell? ⟨gi, k * 2, none⟩ = some ((sp.getD m []).getD k noSpan).1 ∧ w.cell? ⟨gi, k * 2 + 1, none⟩ = some ((sp.getD m []).getD k noSpan).2 := by
  obtain ⟨go, capo, hsv, _, _⟩ := h.outer.form (by omega)
  have h3 := box_cells h.box 3
  have hs := h.svs_len
  have ho : w.ownsRow base 88 1 (.slice (some ⟨go, 0, none⟩) sp.length capo) sp.length svs := by rw [← hsv]; exact h.outer
  have hc := ho.cellAt m (by omega)
  have hcm : w.cell? ⟨go, m, none⟩ = some (svs.getD m undef) := by
    rw [hc]; simp [List.getD, show m < svs.length by omega]
  have hi := h.inner m hm
  rcases hi.2 with ⟨hv, h0⟩ | ⟨gi, capi, cur, hv, r⟩
  · refine ⟨go, capo, none, 0, by rw [← hsv]; simpa using h3, by rw [hcm, hv, h0], fun k hk => by omega⟩
  · refine ⟨go, capo, some ⟨gi, 0, none⟩, capi, by rw [← hsv]; simpa using h3, by rw [hcm, hv], fun k hk => ⟨gi, rfl, ?_⟩⟩
    have hi' : w.ownsRow base 90 2 (.slice (some ⟨gi, 0, none⟩) (sp.getD m []).length capi) (sp.getD m []).length (flatS (sp.getD m [])) := by rw [← hv]; exact hi
    obtain ⟨f1, f2⟩ := flatS_at (sp.getD m []) k hk
    rw [hi'.cellAt (k * 2) (by omega), hi'.cellAt (k * 2 + 1) (by omega), f1, f2]
    exact ⟨rfl, rfl⟩

section
variable {w : World} {W bm base : Nat} {sv : Value} {svs : List Value} {names : List (List UInt8)} {sp : Sp}

set_option maxHeartbeats 400000 in
theorem spans30 (h : WorkAt w W bm base sv svs names sp) : Calls Try.prog 30 #[.pointer (some ⟨W, 0, none⟩)] w fun e w' => e = .returned (.int .i64 (sp.length : Int)) ∧ w' = w := by
  obtain ⟨_, c3, ao, capo, hsv⟩ := h.mems
  clear h
  subst hsv
  go_enter Try.func30, Try.ntmps30
  go_wp2
  go_ret
  exact ⟨rfl, rfl⟩

set_option maxHeartbeats 400000 in
theorem members31 (h : WorkAt w W bm base sv svs names sp) : Calls Try.prog 31 #[.pointer (some ⟨W, 0, none⟩)] w fun e w' => e = .returned (.int .i64 (names.length : Int)) ∧ w' = w := by
  obtain ⟨c2, _, _⟩ := h.mems
  have hl := fun ty => h.map.len ty
  clear h
  go_enter Try.func31, Try.ntmps31
  go_wp2
  go_ret
  exact ⟨rfl, rfl⟩

set_option maxHeartbeats 400000 in
theorem place32 (h : WorkAt w W bm base sv svs names sp) (s : ByteArray) (hs : s.size ≤ maxLen) (hin : names.contains s.data.toList = true) :
    Calls Try.prog 32 #[.pointer (some ⟨W, 0, none⟩), .string s] w fun e w' => e = .returned (.tuple #[.int .i64 (placeOf names s.data.toList : Int), .bool true]) ∧ w' = w := by
  obtain ⟨c2, _, _⟩ := h.mems
  have hl := h.map.look_yes s hs hin
  clear h hin hs
  go_enter Try.func32, Try.ntmps32
  go_wp2
  go_ret2
  exact ⟨rfl, rfl⟩

set_option maxHeartbeats 400000 in
theorem runs33 (h : WorkAt w W bm base sv svs names sp) (m : Nat) (hm : m < sp.length) : Calls Try.prog 33 #[.pointer (some ⟨W, 0, none⟩), .int .i64 m] w fun e w' => e = .returned (.int .i64 ((sp.getD m []).length : Int)) ∧ w' = w := by
  obtain ⟨go, capo, ao, capi, c3, g0, _⟩ := h.member hm
  clear h
  generalize (sp.getD m []).length = nm at *
  generalize List.length sp = ns at *
  go_enter Try.func33, Try.ntmps33
  go_wp2
  go_ret
  exact ⟨rfl, rfl⟩

set_option maxHeartbeats 400000 in
theorem runLen34 (h : WorkAt w W bm base sv svs names sp) (m k : Nat) (hm : m < sp.length) (hk : k < (sp.getD m []).length) (ro : Option Addr) (l c : Nat) (hq : ((sp.getD m []).getD k noSpan).1 = .slice ro l c) :
    Calls Try.prog 34 #[.pointer (some ⟨W, 0, none⟩), .int .i64 m, .int .i64 k] w fun e w' => e = .returned (.int .i64 (l : Int)) ∧ w' = w := by
  obtain ⟨go, capo, ao, capi, c3, g0, hk0⟩ := h.member hm
  obtain ⟨gi, hao, k0, k1⟩ := hk0 k hk
  rw [hq] at k0
  clear h hk0 hq
  subst hao
  generalize (sp.getD m []).length = nm at *
  generalize List.length sp = ns at *
  go_enter Try.func34, Try.ntmps34
  go_wp2
  go_ret
  exact ⟨rfl, rfl⟩

set_option maxHeartbeats 400000 in
theorem hasRates35 (h : WorkAt w W bm base sv svs names sp) (m k : Nat) (hm : m < sp.length) (hk : k < (sp.getD m []).length) (ro : Option Addr) (l c : Nat) (hq : ((sp.getD m []).getD k noSpan).2 = .slice ro l c) :
    Calls Try.prog 35 #[.pointer (some ⟨W, 0, none⟩), .int .i64 m, .int .i64 k] w fun e w' => e = .returned (.bool ro.isSome) ∧ w' = w := by
  obtain ⟨go, capo, ao, capi, c3, g0, hk0⟩ := h.member hm
  obtain ⟨gi, hao, k0, k1⟩ := hk0 k hk
  rw [hq] at k1
  clear h hk0 hq
  subst hao
  generalize (sp.getD m []).length = nm at *
  generalize List.length sp = ns at *
  have hn := run_neq_slice_nil_any (P := Try.prog) (t := 81) (e := 35) (h := Try.underlying81)
  go_enter Try.func35, Try.ntmps35
  go_wp2
  go_ret
  exact ⟨rfl, rfl⟩

set_option maxHeartbeats 400000 in
theorem ratesLen36 (h : WorkAt w W bm base sv svs names sp) (m k : Nat) (hm : m < sp.length) (hk : k < (sp.getD m []).length) (ro : Option Addr) (l c : Nat) (hq : ((sp.getD m []).getD k noSpan).2 = .slice ro l c) :
    Calls Try.prog 36 #[.pointer (some ⟨W, 0, none⟩), .int .i64 m, .int .i64 k] w fun e w' => e = .returned (.int .i64 (l : Int)) ∧ w' = w := by
  obtain ⟨go, capo, ao, capi, c3, g0, hk0⟩ := h.member hm
  obtain ⟨gi, hao, k0, k1⟩ := hk0 k hk
  rw [hq] at k1
  clear h hk0 hq
  subst hao
  generalize (sp.getD m []).length = nm at *
  generalize List.length sp = ns at *
  go_enter Try.func36, Try.ntmps36
  go_wp2
  go_ret
  exact ⟨rfl, rfl⟩

theorem zv80 (w : World) : Sem.run Try.prog (zeroValue 80) w = .ok (.agg #[.int .i32 0, .int .u32 0, .int .i64 0]) w := by kernel_rfl

set_option maxHeartbeats 1000000 in
theorem row37 (h : WorkAt w W bm base sv svs names sp) (m k j : Nat) (hm : m < sp.length) (hk : k < (sp.getD m []).length) (g off l c : Nat) (hq : ((sp.getD m []).getD k noSpan).1 = .slice (some ⟨g, off, none⟩) l c) (hj : j < l)
    (x y z : Int) (hx : w.cell? ⟨g, off + j * 3, none⟩ = some (.int .i32 x)) (hy : w.cell? ⟨g, off + j * 3 + 1, none⟩ = some (.int .u32 y)) (hz : w.cell? ⟨g, off + j * 3 + 2, none⟩ = some (.int .i64 z)) :
    Calls Try.prog 37 #[.pointer (some ⟨W, 0, none⟩), .int .i64 m, .int .i64 k, .int .i64 j] w fun e w' => e = .returned (.tuple #[.int .i32 x, .int .u32 y, .int .i64 z]) ∧ Hid (Nx w w') := by
  obtain ⟨go, capo, ao, capi, c3, g0, hk0⟩ := h.member hm
  obtain ⟨gi, hao, k0, k1⟩ := hk0 k hk
  rw [hq] at k0
  clear h hk0 hq
  subst hao
  have hz80 := zv80
  generalize (sp.getD m []).length = nm at *
  generalize List.length sp = ns at *
  go_enter Try.func37, Try.ntmps37
  go_wp2
  go_quiet (fail)
  go_wp2
  go_ret3
  exact ⟨rfl, Nx.trans (Nx.alloc _ _) (Nx.drewN _ _)⟩

set_option maxHeartbeats 1000000 in
theorem rate38 (h : WorkAt w W bm base sv svs names sp) (m k j : Nat) (hm : m < sp.length) (hk : k < (sp.getD m []).length) (g off l c : Nat) (hq : ((sp.getD m []).getD k noSpan).2 = .slice (some ⟨g, off, none⟩) l c) (hj : j < l)
    (x : Int) (hx : w.cell? ⟨g, off + j, none⟩ = some (.int .i64 x)) :
    Calls Try.prog 38 #[.pointer (some ⟨W, 0, none⟩), .int .i64 m, .int .i64 k, .int .i64 j] w fun e w' => e = .returned (.int .i64 x) ∧ w' = w := by
  obtain ⟨go, capo, ao, capi, c3, g0, hk0⟩ := h.member hm
  obtain ⟨gi, hao, k0, k1⟩ := hk0 k hk
  rw [hq] at k1
  clear h hk0 hq
  subst hao
  generalize (sp.getD m []).length = nm at *
  generalize List.length sp = ns at *
  go_enter Try.func38, Try.ntmps38
  go_wp2
  go_ret
  exact ⟨rfl, rfl⟩
end

end Go.Proofs.Qxb6003633a
