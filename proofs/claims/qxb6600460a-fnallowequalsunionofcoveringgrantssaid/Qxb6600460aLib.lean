import Derived.Test.Qxb6600460aChecked
import Derived.Lib.Strings
import Derived.Lib.Slices
import Derived.Lib.SlicesS
import Derived.Lib.Walk
namespace Go.Proofs.Qxb6600460a

set_option maxHeartbeats 1000000 in
/-- strings.HasPrefix: "HasPrefix reports whether the string s begins with prefix.": IT RETURNS 'Lib.hasPrefix s prefix'; the world is as it was. -/
theorem strings_HasPrefix (s p : ByteArray) (w : World) :
    Calls Try.prog 29 #[.string s, .string p] w fun e w' => e = .returned (.bool (Lib.hasPrefix s.data.toList p.data.toList)) ∧ w' = w := by
  rw [← Lib.hasPrefix_of_take, ← Lib.size_eq, ← Lib.size_eq]
  go_enter Try.func29, Try.ntmps29
  go_wp2
  · rename_i h
    go_ret
    refine ⟨?_, rfl⟩
    show Ending.returned (Value.bool ((s.extract 0 p.size).toList == p.toList)) = _
    rw [Lib.extract_toList, Lib.toList_data]
    simp [h]
  · rename_i h
    go_ret
    refine ⟨?_, rfl⟩
    show Ending.returned (Value.bool false) = _
    simp [h]

set_option maxHeartbeats 1000000 in
/-- strings.HasSuffix: "HasSuffix reports whether the string s ends with suffix.": IT RETURNS 'Lib.hasSuffix s suffix'; the world is as it was. ('hs': no Go string is longer: a caller has it of every string that it was handed.) -/
theorem strings_HasSuffix (s p : ByteArray) (w : World) (hs : s.size ≤ 9223372036854775807) :
    Calls Try.prog 28 #[.string s, .string p] w fun e w' => e = .returned (.bool (Lib.hasSuffix s.data.toList p.data.toList)) ∧ w' = w := by
  rw [← Lib.hasSuffix_raw]
  have hlo : p.size ≤ s.size → ((s.size : Int) - (p.size : Int) + 9223372036854775808) % 18446744073709551616 - 9223372036854775808 = ((s.size - p.size : Nat) : Int) := fun _ => by omega
  go_enter Try.func28, Try.ntmps28
  go_wp2
  · have h : p.size ≤ s.size := by assumption
    go_ret
    refine ⟨?_, rfl⟩
    show Ending.returned (Value.bool ((s.extract (s.size - p.size) s.size).toList == p.toList)) = _
    simp [h]
  · have h : ¬ p.size ≤ s.size := by assumption
    go_ret
    refine ⟨?_, rfl⟩
    show Ending.returned (Value.bool false) = _
    simp [h]

set_option maxHeartbeats 1000000 in
/-- strings.CutSuffix: "CutSuffix returns s without the provided ending suffix string and reports whether it found the suffix. If s doesn't end with suffix, CutSuffix returns s, false. If suffix is the empty string, CutSuffix returns s, true.": IT RETURNS ('Lib.trimSuffix s suffix', 'Lib.hasSuffix s suffix'); the world is as it was. -/
theorem strings_CutSuffix (s p : ByteArray) (w : World) (hs : s.size ≤ 9223372036854775807) :
    Calls Try.prog 27 #[.string s, .string p] w fun e w' => e = .returned (.tuple #[.string ⟨(Lib.trimSuffix s.data.toList p.data.toList).toArray⟩, .bool (Lib.hasSuffix s.data.toList p.data.toList)]) ∧ w' = w := by
  have hlo : p.size ≤ s.size → ((s.size : Int) - (p.size : Int) + 9223372036854775808) % 18446744073709551616 - 9223372036854775808 = ((s.size - p.size : Nat) : Int) := fun _ => by omega
  go_enter Try.func27, Try.ntmps27
  go_wp2
  · have h2 : (!((s.extract (s.size - p.size) s.size).toList == p.toList)) = true := by assumption
    have h3 : (decide (p.size ≤ s.size) && ((s.extract (s.size - p.size) s.size).toList == p.toList)) = false := by
      have : ((s.extract (s.size - p.size) s.size).toList == p.toList) = false := by simpa using h2
      rw [this]
      simp
    go_ret2
    refine ⟨?_, rfl⟩
    rw [Lib.trimSuffix_miss s p h3, ← Lib.hasSuffix_raw, h3]
    rfl
  · have h1 : p.size ≤ s.size := by assumption
    have h2 : (!((s.extract (s.size - p.size) s.size).toList == p.toList)) = false := by assumption
    have h2' : ((s.extract (s.size - p.size) s.size).toList == p.toList) = true := by simpa using h2
    go_ret2
    refine ⟨?_, rfl⟩
    rw [Lib.trimSuffix_hit s p h1 h2', ← Lib.hasSuffix_raw, h2', decide_eq_true h1]
    rfl
  · have h1 : ¬ p.size ≤ s.size := by assumption
    have h3 : (decide (p.size ≤ s.size) && ((s.extract (s.size - p.size) s.size).toList == p.toList)) = false := by simp [h1]
    go_ret2
    refine ⟨?_, rfl⟩
    rw [Lib.trimSuffix_miss s p h3, ← Lib.hasSuffix_raw, h3]
    rfl

set_option maxHeartbeats 1000000 in
/-- slices.Index at []string: "Index returns the index of the first occurrence of v in s, or -1 if not present.": IT RETURNS 'Lib.idxOfS (the elements) v'; the world is as it was. 'zs': what the cells behind the slice's address hold (its spare capacity too, if you have it); 'zs.take n': its elements. -/
theorem slices_Index_string (b off n c : Nat) (zs : List ByteArray) (x : ByteArray) (w : World) (hz : n ≤ zs.length) (hbig : n ≤ 9223372036854775807) (hc : ∀ j, j < zs.length → w.cell? ⟨b, off + j, none⟩ = some (.string (zs.getD j ByteArray.empty))) :
    Calls Try.prog 31 #[.slice (some ⟨b, off, none⟩) n c, .string x] w fun e w' => e = .returned (.int .i64 (Lib.idxOfS (zs.take n) x)) ∧ w' = w := by
  go_enter Try.func31, Try.ntmps31
  go_wp2
  go_loop [5, 8] (fun _ i => ∃ k : Nat, k ≤ n ∧ i = .int .i64 k ∧ ∀ j, j < k → zs.getD j ByteArray.empty ≠ x) (fun _ i => match i with | .int _ m => n - m.toNat | _ => 0)
  case atStart => exact ⟨0, Nat.zero_le _, rfl, fun j hj => absurd hj (Nat.not_lt_zero _)⟩
  case round =>
    obtain ⟨k, hk, rfl, hne⟩ := hrel
    have hcell : k < n → w.cell? ⟨b, off + k, none⟩ = some (.string (zs.getD k ByteArray.empty)) := fun _ => hc k (by omega)
    go_wp2
    · have hlt : k < n := by assumption
      have heq : (x.toList == (zs[k]?.getD ByteArray.empty).toList) = true := by assumption
      go_ret
      refine ⟨?_, rfl⟩
      rw [Lib.idxOfS_hit zs n k x hlt hz (by simp only [List.getD]; exact ((Lib.bytes_beq_iff _ _).1 heq).symm) hne]
      rfl
    · have hlt : k < n := by assumption
      have hneq : (x.toList == (zs[k]?.getD ByteArray.empty).toList) = false := by assumption
      refine ⟨⟨_, _, _, ⟨k + 1, by omega, rfl, fun j hj => ?_⟩, rfl, rfl, ?_⟩, by omega⟩
      · by_cases e : j = k
        · subst e
          intro he
          exact (Lib.bytes_beq_false_iff _ _).1 hneq (by simpa [List.getD] using he.symm)
        · have := hne j (by omega)
          simpa [List.getD] using this
      · have e1 : ((k : Int) + 1 + 9223372036854775808) % 18446744073709551616 - 9223372036854775808 = ((k + 1 : Nat) : Int) := by omega
        rw [e1]
    · have hge : ¬ k < n := by assumption
      have : k = n := by omega
      subst this
      go_ret
      refine ⟨?_, rfl⟩
      rw [Lib.idxOfS_miss zs k x hne]
      rfl

set_option maxHeartbeats 1000000 in
/-- The same at a slice of length 0, a nil one too: no cell is known, none is asked for. -/
theorem slices_Index_string_empty (a : Option Addr) (c : Nat) (x : ByteArray) (w : World) :
    Calls Try.prog 31 #[.slice a 0 c, .string x] w fun e w' => e = .returned (.int .i64 (Lib.idxOfS [] x)) ∧ w' = w := by
  go_enter Try.func31, Try.ntmps31
  go_wp2
  go_loop [5, 8] (fun _ i => i = .int .i64 0) (fun _ _ => 0)
  case atStart => rfl
  case round =>
    subst hrel
    go_wp2
    go_ret
    exact ⟨rfl, rfl⟩

/-- slices.Contains at []string: "Contains reports whether v is present in s.": IT RETURNS 'Lib.containsS (the elements) v', which is true just where v is among them ('Lib.containsS_iff'); the world is as it was. ITS CALLEE slices.Index IS MET BY ITS OWN CONTRACT OFF THE SHELF (lay that first): no loop is walked here. -/
theorem slices_Contains_string (b off n c : Nat) (zs : List ByteArray) (x : ByteArray) (w : World) (hz : n ≤ zs.length) (hbig : n ≤ 9223372036854775807) (hc : ∀ j, j < zs.length → w.cell? ⟨b, off + j, none⟩ = some (.string (zs.getD j ByteArray.empty))) :
    Calls Try.prog 26 #[.slice (some ⟨b, off, none⟩) n c, .string x] w fun e w' => e = .returned (.bool (Lib.containsS (zs.take n) x)) ∧ w' = w := by
  unfold Lib.containsS
  go_enter Try.func26, Try.ntmps26
  go_wp2_with (go_at_call 31; refine (slices_Index_string b off n c zs x _ hz hbig hc).mono ?_; rintro e w' ⟨rfl, rfl⟩)
  go_ret
  exact ⟨rfl, rfl⟩

/-- The same at a slice of length 0, a nil one too. -/
theorem slices_Contains_string_empty (a : Option Addr) (c : Nat) (x : ByteArray) (w : World) :
    Calls Try.prog 26 #[.slice a 0 c, .string x] w fun e w' => e = .returned (.bool false) ∧ w' = w := by
  go_enter Try.func26, Try.ntmps26
  go_wp2_with (go_at_call 31; refine (slices_Index_string_empty a c x _).mono ?_; rintro e w' ⟨rfl, rfl⟩)
  go_ret
  exact ⟨rfl, rfl⟩

end Go.Proofs.Qxb6600460a
