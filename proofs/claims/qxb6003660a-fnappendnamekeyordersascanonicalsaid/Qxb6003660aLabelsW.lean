import Derived.Test.Qxb6003660aCanon
namespace Go.Proofs.Qxb6003660a
open Go.RowKit

theorem info9 : (Try.prog.info? 9).map (fun i => (i.zero, i.size, i.bytes)) = some (some (.string ByteArray.empty), 1, 16) := by kernel_rfl

def OwnS (w : World) (base : Nat) (v : Value) (ss : List ByteArray) : Prop := w.ownsRow base 9 1 v ss.length (ss.map Value.string)

structure InvS (w wr : World) (base : Nat) (v : Value) (ss : List ByteArray) : Prop where
  own : OwnS wr base v ss
  below : Below base w wr
  hbase : base ≤ wr.heap.size

theorem wpList_invS {ops : Array Oper} {rest : List Oper} {o : Oper} {a : Act} {Q : Exit → Act → World → Prop} {w wr : World} {base : Nat} {v : Value} {ss : List ByteArray} (HI : Hid (InvS w wr base v ss)) (hgd : o.guard = none) (s x : Operand)
    (ho : o.op = .call { callee := .builtin .append, args := #[s, x], argTypes := #[32, 32] }) (hs : a.eval s = v) (b : ByteArray) (c : Nat) (hx : a.eval x = .slice (some ⟨wr.heap.size, 0, none⟩) 1 c)
    (hlen : ss.length ≤ 1000)
    (h : ∀ v' w', Hid (InvS w w' base v' (ss ++ [b])) → wpList Try.prog ops Q rest (a.put o.dst v') w') : wpList Try.prog ops Q (o :: rest) a (wr.alloc (.cells #[.string b] 9)) := by
  obtain ⟨i0, hi, hz0, hz1, hz2⟩ := info_parts info9
  have I := HI.out
  have hmx : ss.length + 1 ≤ maxLen := by unfold maxLen; omega
  refine wpList_append_own _ hgd s x 32 ho base 9 i0 (.string ByteArray.empty) 1 16 Try.underlying32 hi hz0 hz1 hz2 rfl (by decide) v ss.length (ss.map Value.string) hs (World.ownsRow.alloc I.own _) ⟨wr.heap.size, 0, none⟩ 1 c [.string b] hx rfl ?_ ?_ hmx (by omega) (by have := I.hbase; simp; omega) ?_
  · intro j u hj
    rw [Addr.add_lit, Nat.zero_add, World.cell?_alloc_new]
    simpa using hj
  · intro u hu
    simp at hu; subst hu; rfl
  · intro v' w' hown hg _
    refine h v' w' ⟨?_, ?_, ?_⟩
    · unfold OwnS
      rw [List.length_append, List.map_append]
      exact hown
    · exact (I.below.alloc I.hbase _).grown hg (by have := I.hbase; simp; omega) (fun k hk => (I.own.lt k hk).1)
    · have := hg.size; have := I.hbase; simp at *; omega

theorem cut_label (n : ByteArray) (ls : List (List UInt8)) (c l : Nat) (hn : n.data.toList = nm ls) (hc : c < ls.length) (hl : l = ls[c].length) : (n.extract (offAt ls c + 1) (offAt ls c + 1 + l)).data.toList = ls[c] := by
  subst hl
  rw [Lib.extract_data, hn, split_at ls c hc, Nat.add_sub_cancel_left]
  have e : (encL (ls.take c) ++ (UInt8.ofNat ls[c].length :: (ls[c] ++ nm (ls.drop (c + 1))))).drop (offAt ls c + 1) = ls[c] ++ nm (ls.drop (c + 1)) := by
    have e2 : encL (ls.take c) ++ (UInt8.ofNat ls[c].length :: (ls[c] ++ nm (ls.drop (c + 1)))) = (encL (ls.take c) ++ [UInt8.ofNat ls[c].length]) ++ (ls[c] ++ nm (ls.drop (c + 1))) := by simp
    rw [e2, List.drop_left' (by unfold offAt; simp)]
  rw [e, List.take_left]

set_option maxHeartbeats 1000000 in
theorem labels_any (n : ByteArray) (ls : List (List UInt8)) (w : World) (hn : n.data.toList = nm ls) (hg : Good ls) (h255 : n.size ≤ 255) :
    Calls Try.prog 15 #[.string n] w fun e w' => ∃ v ss, e = .returned v ∧ Hid (ss.map (fun s : ByteArray => s.data.toList) = ls) ∧ Hid (OwnS w' w.heap.size v ss) ∧ Hid (Below w.heap.size w w') := by
  have HN := (show Hid _ from hn); clear hn
  have HG := (show Hid _ from hg); clear hg
  go_enter Try.func15, Try.ntmps15
  go_wp2
  go_loopw [3, 4] (fun b i wr => ∃ c : Nat, c ≤ ls.length ∧ i = .int .i64 (offAt ls c) ∧ ∃ ss, Hid (ss.map (fun s : ByteArray => s.data.toList) = ls.take c) ∧ Hid (InvS w wr w.heap.size b ss)) (fun _ i _ => n.size - (intOf i).toNat)
  case atStart => exact ⟨0, by omega, rfl, [], rfl, ⟨World.ownsRow_nil _ _ _ _, Below.refl _ _, Nat.le_refl _⟩⟩
  case round =>
    obtain ⟨c, hc, rfl, ss, HSS, HI⟩ := hrel
    by_cases h1 : c < ls.length
    · obtain ⟨ho, g1, g2, g3, g4, g5, g6⟩ := at_label n ls c HN.out HG.out h255 h1
      have hb0 : ((n[offAt ls c].toNat : Int) != 0) = true := by simp; omega
      have hcut := cut_label n ls c _ HN.out h1 g6
      have hts : (ss ++ [n.extract (offAt ls c + 1) (offAt ls c + 1 + n[offAt ls c].toNat)]).map (fun s : ByteArray => s.data.toList) = ls.take (c + 1) := by
        rw [List.map_append, HSS.out, List.take_succ_eq_append_getElem h1]
        simp only [List.map_cons, List.map_nil, hcut]
      have hsl : ss.length ≤ 1000 := by
        have := congrArg List.length HSS.out
        rw [List.length_map, List.length_take] at this
        omega
      have HTS := (show Hid _ from hts)
      have HO := (show Hid _ from g3)
      have hg4 : offAt ls c + 1 + n[offAt ls c].toNat < n.size := by omega
      clear g3 g6 hcut hts g4
      generalize offAt ls c = o at *
      go_wp2_with (at_builtin; refine wpList_invS HI rfl _ _ rfl rfl _ 1 rfl hsl ?_; intro v' w2 HI3)
      go_roundw
      case rel => exact ⟨c + 1, by omega, by rw [HO.out]; go_num, _, HTS, HI3⟩
      case measure => simp [intOf]; omega
    · obtain ⟨ho, g1⟩ := at_end n ls HN.out
      obtain rfl : c = ls.length := by omega
      have hb0 : ((n[offAt ls ls.length].toNat : Int) != 0) = false := by simp [g1]
      clear g1
      generalize offAt ls ls.length = o at *
      go_wp2
      go_ret
      exact ⟨_, ss, rfl, by have := HSS.out; rw [List.take_length] at this; exact this, HI.out.own, HI.out.below⟩

end Go.Proofs.Qxb6003660a
