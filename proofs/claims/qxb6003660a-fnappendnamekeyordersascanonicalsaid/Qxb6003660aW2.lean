import Derived.Test.Qxb6003660aW1
namespace Go.Proofs.Qxb6003660a
open Go.RowKit

set_option maxHeartbeats 400000 in
theorem bytes3_yes (a b c : ByteArray) (w : World) (h : a.size + b.size + c.size ≤ 1048576) :
    Calls Try.prog 24 #[.string a, .string b, .string c] w fun e w' => e = .returned (.bool true) ∧ w' = w := by
  go_enter Try.func24, Try.ntmps24
  go_wp2
  go_ret
  exact ⟨rfl, rfl⟩

set_option maxHeartbeats 400000 in
theorem bytes3_no (a b c : ByteArray) (w : World) (h : 1048576 < a.size + b.size + c.size) (ha : a.size ≤ maxLen) (hb : b.size ≤ maxLen) (hc : c.size ≤ maxLen) :
    Calls Try.prog 24 #[.string a, .string b, .string c] w fun e w' => e = .returned (.bool false) ∧ w' = w := by
  unfold maxLen at ha hb hc
  go_enter Try.func24, Try.ntmps24
  go_wp2
  all_goals (go_ret; exact ⟨rfl, rfl⟩)

theorem info5 : (Try.prog.info? 5).map (fun i => (i.zero, i.size, i.bytes)) = some (some (.int .u8 0), 1, 1) := by kernel_rfl

theorem made_bytes (n j : Nat) (h : j < n) : (madeCells #[Value.int .u8 0] n)[j]? = some (.int .u8 0) := by
  simp [madeCells, h, Nat.mod_one]

/-- the byte slice at the head of block g holds the numbers L -/
def Holds8 (w : World) (g : Nat) (L : List Int) : Prop := ∀ j, j < L.length → w.cell? ⟨g, j, none⟩ = some (.int .u8 (L.getD j 0))
def Free8 (w : World) (g : Nat) : Prop := ∀ j, w.frozen? ⟨g, j, none⟩ = false

theorem Holds8.set {w : World} {g : Nat} {L : List Int} (h : Holds8 w g L) (k : Nat) (hk : k < L.length) (v : Int) : Holds8 (w.setCell ⟨g, k, none⟩ (.int .u8 v)) g (L.set k v) := by
  intro j hj
  simp only [List.length_set] at hj
  by_cases e : j = k
  · subst e
    rw [World.cell?_setCell_same _ _ _ (h j hk)]
    simp [List.getD, hk]
  · rw [World.cell?_setCell_other _ _ _ _ (by simp only [ne_eq, Addr.mk.injEq]; omega), h j hj]
    simp [List.getD, List.getElem?_set_ne (Ne.symm e)]

theorem fold_push (ns : List Int) : ∀ s : ByteArray, (ns.foldl (fun r n => r.push (UInt8.ofNat n.toNat)) s).data.toList = s.data.toList ++ ns.map (fun n => UInt8.ofNat n.toNat) := by
  induction ns with
  | nil => intro s; simp
  | cons n ns ih =>
    intro s
    rw [List.foldl_cons, ih]
    simp

/-- string(bs), bs a slice at the head of block g -/
theorem string_of (w : World) (g n c : Nat) (L : List Int) (hl : L.length = n) (h : Holds8 w g L) :
    ∃ r : ByteArray, r.data.toList = L.map (fun n => UInt8.ofNat n.toNat) ∧ (convert 22 9 (.slice (some ⟨g, 0, none⟩) n c)).run Try.prog w = .ok (.string r) w := by
  subst hl
  refine ⟨L.foldl (fun r n => r.push (UInt8.ofNat n.toNat)) ByteArray.empty, ?_, ?_⟩
  rotate_left
  · rw [run_convert_bytes_string w 22 9 5 _ _ _ Try.underlying22 Try.underlying5 Try.underlying9]
    refine run_bytesToString w _ _ _ L ?_
    have := run_loadCells_list (P := Try.prog) (w := w) ⟨g, 0, none⟩ (L.map (Value.int .u8)) (by
      intro j v hj
      rw [List.getElem?_map, Option.map_eq_some_iff] at hj
      obtain ⟨x, hx, rfl⟩ := hj
      have hjl : j < L.length := (List.getElem?_eq_some_iff.1 hx).1
      have e := h j hjl
      rw [Addr.add_lit, Nat.zero_add, e]
      simp [List.getD, hx])
    rw [List.length_map] at this
    exact this
  · rw [fold_push]
    simp

def swapTo (l : List UInt8) (k : Nat) : List Int := (l.take k).map (fun c => swapI (c.toNat : Int)) ++ List.replicate (l.length - k) 0
theorem swapTo_len (l : List UInt8) (k : Nat) (h : k ≤ l.length) : (swapTo l k).length = l.length := by
  simp [swapTo]; omega
theorem swapTo_step (s : ByteArray) (k : Nat) (h : k < s.size) (v : Int) (hv : v = swapI (s[k].toNat : Int)) : (swapTo s.data.toList k).set k v = swapTo s.data.toList (k + 1) := by
  have h' : k < s.data.toList.length := by rw [len_data]; exact h
  have ht : ((s.data.toList.take k).map (fun c => swapI (c.toNat : Int))).length = k := by rw [List.length_map, List.length_take]; omega
  unfold swapTo
  rw [List.set_append_right _ _ (by omega), ht, Nat.sub_self, List.take_succ_eq_append_getElem h', List.map_append, List.append_assoc, hv]
  obtain ⟨m, hm⟩ : ∃ m, s.data.toList.length - k = m + 1 := ⟨s.data.toList.length - k - 1, by omega⟩
  have hm2 : s.data.toList.length - (k + 1) = m := by omega
  rw [hm, hm2, List.replicate_succ]
  rfl
theorem swapTo_at (l : List UInt8) (k : Nat) (h : k < l.length) : (swapTo l k).getD k 0 = 0 := by
  have ht : ((l.take k).map (fun c => swapI (c.toNat : Int))).length = k := by rw [List.length_map, List.length_take]; omega
  unfold swapTo
  rw [List.getD, List.getElem?_append_right (by omega), ht, Nat.sub_self]
  obtain ⟨m, hm⟩ : ∃ m, l.length - k = m + 1 := ⟨l.length - k - 1, by omega⟩
  rw [hm]; rfl
theorem swapTo_all (l : List UInt8) : (swapTo l l.length).map (fun n => UInt8.ofNat n.toNat) = l.map swapU := by
  simp [swapTo, swapU]

theorem swap_round {s : ByteArray} {w wr : World} {k : Nat} (h1 : k < s.size) (HH : Hid (Holds8 wr w.heap.size (swapTo s.data.toList k))) (HZ : Hid (Free8 wr w.heap.size)) (hb : Below w.heap.size w wr) (v : Int) (hv : v = swapI (s[k].toNat : Int)) :
    Hid (Holds8 (wr.setCell ⟨w.heap.size, k, none⟩ (.int .u8 v)) w.heap.size (swapTo s.data.toList (k + 1))) ∧ Hid (Free8 (wr.setCell ⟨w.heap.size, k, none⟩ (.int .u8 v)) w.heap.size) ∧ Below w.heap.size w (wr.setCell ⟨w.heap.size, k, none⟩ (.int .u8 v)) := by
  refine ⟨?_, ?_, hb.setCell (Nat.le_refl _) _⟩
  · have := HH.out.set k (by rw [swapTo_len _ _ (by rw [len_data]; omega), len_data]; exact h1) v
    rw [swapTo_step s k h1 v hv] at this
    exact this
  · intro j
    rw [World.frozen?_setCell]
    exact HZ.out j

set_option maxHeartbeats 400000 in
theorem swap_any (s : ByteArray) (w : World) (hs : s.size ≤ 1048576) :
    Calls Try.prog 26 #[.string s] w fun e w' => (∃ r : ByteArray, e = .returned (.string r) ∧ r.data.toList = s.data.toList.map swapU) ∧ Below w.heap.size w w' := by
  obtain ⟨i0, hi, hz0, hz1, hz2⟩ := info_parts info5
  have hmk := run_make (P := Try.prog) w 22 5 i0 (.int .u8 0) Try.underlying22 hi hz0 .i64 .i64 (s.size : Int) (s.size : Int) (by omega) (by omega) (by rw [hz2]; omega) (by omega)
  rw [hz1] at hmk
  simp only [Int.toNat_natCast, Nat.mul_one] at hmk
  clear hi hz0 hz1 hz2
  go_enter Try.func26, Try.ntmps26
  go_wp2
  go_loopw [4] (fun i wr => ∃ k : Nat, k ≤ s.size ∧ i = .int .i64 k ∧ Hid (Holds8 wr w.heap.size (swapTo s.data.toList k)) ∧ Hid (Free8 wr w.heap.size) ∧ Below w.heap.size w wr) (fun i _ => s.size - (intOf i).toNat)
  case atStart =>
    refine ⟨0, by omega, rfl, ?_, ?_, (Below.refl _ _).alloc (Nat.le_refl _) _⟩
    · intro j hj
      rw [swapTo_len _ _ (by omega), len_data] at hj
      rw [World.cell?_alloc_new, made_bytes _ _ hj]
      simp [swapTo, hj]
    · intro j
      exact World.frozen?_alloc_new _ _ _ _
  case round =>
    obtain ⟨k, hk, rfl, HH, HZ, hb⟩ := hrel
    by_cases h1 : k < s.size
    · have hc := s[k].toNat_lt
      have hcell : wr.cell? ⟨w.heap.size, k, none⟩ = some (.int .u8 0) := by
        rw [HH.out k (by rw [swapTo_len _ _ (by rw [len_data]; omega), len_data]; exact h1), swapTo_at _ _ (by rw [len_data]; exact h1)]
      have hfz : wr.frozen? ⟨w.heap.size, k, none⟩ = false := HZ.out k
      go_wp2
      all_goals
        go_roundw
        case rel => exact ⟨k + 1, by omega, by go_num, swap_round h1 HH HZ hb _ (by unfold swapI; split <;> (try split) <;> omega)⟩
        case measure => simp [intOf]; omega
    · obtain rfl : k = s.size := by omega
      obtain ⟨r, hr, hconv⟩ := string_of wr w.heap.size s.size s.size (swapTo s.data.toList s.size) (by rw [swapTo_len _ _ (by rw [len_data]; omega), len_data]) HH.out
      have HR : Hid (r.data.toList = s.data.toList.map swapU) := by
        show _ = _
        rw [hr, ← len_data s, swapTo_all]
      clear hr
      go_wp2
      go_ret
      exact ⟨⟨r, rfl, HR.out⟩, hb⟩

end Go.Proofs.Qxb6003660a
