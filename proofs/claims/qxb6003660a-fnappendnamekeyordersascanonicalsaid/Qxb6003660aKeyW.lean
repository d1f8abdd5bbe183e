import Derived.Test.Qxb6003660aKey
import Derived.Deep.LoopGhost
namespace Go.Proofs.Qxb6003660a
open Go.RowKit

theorem at_byte (n : ByteArray) (ls : List (List UInt8)) (c k : Nat) (hn : n.data.toList = nm ls) (hc : c < ls.length) (hk : k < ls[c].length) :
    ∃ ho : offAt ls c + (1 + k) < n.size, n[offAt ls c + (1 + k)] = ls[c][k] := by
  have hs := split_at ls c hc
  rw [← hn] at hs
  have e : ls[c] = ls[c].take k ++ (ls[c][k] :: ls[c].drop (k + 1)) := by simp
  have hs2 : n.data.toList = (encL (ls.take c) ++ (UInt8.ofNat ls[c].length :: ls[c].take k)) ++ ls[c][k] :: (ls[c].drop (k + 1) ++ nm (ls.drop (c + 1))) := by
    have e3 : ls[c] ++ nm (ls.drop (c + 1)) = ls[c].take k ++ (ls[c][k] :: (ls[c].drop (k + 1) ++ nm (ls.drop (c + 1)))) := by
      have := congrArg (fun x => x ++ nm (ls.drop (c + 1))) e
      rw [List.append_assoc, List.cons_append] at this
      exact this
    rw [hs, e3]
    simp
  exact byte_at n _ _ _ _ (by unfold offAt; simp; omega) hs2

theorem alloc_last (w : World) (o : Obj) : (w.alloc o).heap[w.heap.size]? = some o := by
  show (w.heap.push o)[w.heap.size]? = some o
  simp
theorem zeroL_len : zeroL.length = 127 := List.length_replicate
theorem zero_row (w : World) : Row8 (w.alloc (.cells zero127 57)) w.heap.size 57 zeroL := alloc_last _ _

theorem inv_start {w w1 : World} {base : Nat} {v : Value} {zs S : List Int} (HOW : Hid (Own8 w base v zs)) (hbase : base ≤ w.heap.size) (hrow : Row8 w1 w.heap.size 57 S) (hb1 : Below w.heap.size (w.alloc (.cells zero127 57)) w1) (hsz1 : w1.heap.size = (w.alloc (.cells zero127 57)).heap.size) : Hid (Inv w w1 base w.heap.size S v zs) := by
  have e1 : (w.alloc (.cells zero127 57)).heap.size = w.heap.size + 1 := by simp
  refine ⟨?_, hrow, ?_, by omega⟩
  · refine World.ownsRow.kept (row := some w.heap.size) (HOW.out.alloc _) ⟨hb1.os, hb1.tape, hb1.output, hb1.size, fun k hk hne => hb1.block k ?_⟩ ?_
    · have : k ≠ w.heap.size := fun e => hne (by rw [e])
      omega
    · refine .inr fun e => ?_
      have := (HOW.out.lt _ e).2
      omega
  · exact ((Below.refl base w).alloc hbase _).trans (hb1.mono hbase)

set_option maxHeartbeats 1000000 in
theorem key_any (n : ByteArray) (ls : List (List UInt8)) (base : Nat) (v : Value) (zs : List Int) (w : World) (hn : n.data.toList = nm ls) (hg : Good ls) (h255 : n.size ≤ 255) (hown : Own8 w base v zs) (hbase : base ≤ w.heap.size) (hzs : zs.length ≤ 1048576) :
    Calls Try.prog 34 #[v, .string n] w fun e w' => ∃ v', e = .returned v' ∧ Own8 w' base v' (zs ++ key ls) ∧ Below base w w' := by
  have HN := (show Hid _ from hn); clear hn
  have HG := (show Hid _ from hg); clear hg
  have HOW := (show Hid _ from hown); clear hown
  have hz57 := zv57
  go_enter Try.func34, Try.ntmps34
  go_wp2_with fail
  clear hz57
  refine (labelStarts_any n ls w.heap.size zeroL _ HN.out HG.out h255 zeroL_len (by exact zero_row w)).mono ?_
  rintro e w1 ⟨rfl, S, hS, hrow, hst, hb1, hsz1⟩
  have HI := inv_start HOW hbase hrow hb1 hsz1
  have HST := (show Hid _ from hst)
  have HSL := (show Hid _ from hS)
  clear hS hrow hst hb1 hsz1 HOW
  have hls : ls.length ≤ 127 := by
    have := offAt_ge ls HG.out ls.length (Nat.le_refl _)
    obtain ⟨ho, _⟩ := at_end n ls HN.out
    omega
  have hel : (encL ls).length ≤ 255 := by
    have := congrArg List.length HN.out
    rw [len_data, nm_len] at this
    omega
  go_wp2_with fail
  generalize hgg : w.heap.size = g at *
  have HGG := (show Hid _ from hgg); clear hgg
  go_loopw [0, 6] (fun b i wr => ∃ c : Nat, c ≤ ls.length ∧ i = .int .i64 ((c : Int) - 1) ∧ Hid (Inv w wr base g S b (zs ++ keyLs (ls.drop c)))) (fun _ i _ => (intOf i + 1).toNat)
  case atStart => exact ⟨ls.length, Nat.le_refl _, rfl, by rw [List.drop_length]; simpa [keyLs] using HI⟩
  case round =>
    obtain ⟨c, hc, rfl, HI'⟩ := hrel
    clear HI
    cases c with
    | zero =>
      have hX : (zs ++ keyLs (ls.drop 0)).length + 2 ≤ 4194304 := by
        have := keyLs_drop_len ls 0
        rw [List.length_append]; omega
      have HX := (show Hid _ from hX); clear hX
      go_wp2_with (at_builtin; refine wpList_inv HI' rfl _ _ rfl rfl [0, 0] _ rfl 2 rfl 2 rfl HX.out ?_; intro v' w2 HI2)
      go_ret
      refine ⟨_, rfl, ?_, HI2.out.below⟩
      have := HI2.out.own
      rw [List.append_assoc] at this
      exact this
    | succ c =>
      have hcl : c < ls.length := by omega
      obtain ⟨ho, g1, g2, g3, g4, g5, g6⟩ := at_label n ls c HN.out HG.out h255 hcl
      have hcell := HI'.out.row.cell c (by rw [HSL.out]; omega)
      rw [HST.out c hcl] at hcell
      have hab := fun k (hk : k < ls[c].length) => at_byte n ls c k HN.out hcl hk
      have HAB := (show Hid _ from hab); clear hab
      have hks := keyLs_step ls c hcl
      have HKS := (show Hid _ from hks); clear hks
      have hX : (zs ++ keyLs (ls.drop (c + 1))).length + 1024 ≤ 4194304 := by
        have := keyLs_drop_len ls (c + 1)
        rw [List.length_append]; omega
      have HX := (show Hid _ from hX); clear hX
      generalize hll : ls[c] = l at *
      clear hll
      have hn1 : n[offAt ls c].toNat ≤ l.length := by omega
      have hn2 : l.length ≤ n[offAt ls c].toNat := by omega
      clear g6 g3
      generalize offAt ls c = o at *
      have hbo : o ≤ 255 := by omega
      rw [show (((c + 1 : Nat) : Int) - 1) = (c : Int) by omega]
      go_wp2_with fail
      go_loopw [0, 8] (fun b j wr2 => ∃ k : Nat, k ≤ l.length ∧ j = .int .i64 ((o + (1 + k) : Nat) : Int) ∧ Hid (Inv w wr2 base g S b ((zs ++ keyLs (ls.drop (c + 1))) ++ keyBs (l.take k)))) (fun _ j _ => o + 1 + l.length - (intOf j).toNat)
      case atStart => exact ⟨0, by omega, by go_num, by simpa [keyBs] using HI'⟩
      case round =>
        obtain ⟨k, hk, rfl, HI2⟩ := hrel
        clear HI' hcell
        have hX : ((zs ++ keyLs (ls.drop (c + 1))) ++ keyBs (l.take k)).length + 2 ≤ 4194304 := by
          have := keyBs_len (l.take k)
          have := HX.out
          rw [List.length_append]
          rw [List.length_take] at *
          omega
        have HX2 := (show Hid _ from hX); clear hX
        by_cases hkl : k < l.length
        · obtain ⟨hj, hbyte⟩ := HAB.out k hkl
          have hbs := keyBs_step l k hkl
          generalize hjj : o + (1 + k) = j at *
          have h1 : j ≤ o + n[o].toNat := by omega
          by_cases hz : l[k].toNat = 0
          · have hb0 : ((n[j].toNat : Int) == 0) = true := by rw [hbyte]; simp [hz]
            have HB : Hid (keyBs (l.take (k + 1)) = keyBs (l.take k) ++ [0, 255]) := by
              show _ = _
              rw [hbs]; unfold keyB; rw [if_pos hz]
            have HJ := (show Hid _ from hjj)
            clear hbs hbyte hz hjj
            go_wp2_with (at_builtin; refine wpList_inv HI2 rfl _ _ rfl rfl [0, 255] _ rfl 2 rfl 2 rfl HX2.out ?_; intro v' w2 HI3)
            go_roundw
            case rel => exact ⟨k + 1, by omega, by have := HJ.out; go_num, by rw [HB.out, ← List.append_assoc]; exact HI3⟩
            case measure => have := HJ.out; simp [intOf]; omega
          · have hb0 : ((n[j].toNat : Int) == 0) = false := by rw [hbyte]; simp; omega
            have HB : Hid (keyBs (l.take (k + 1)) = keyBs (l.take k) ++ [lowI (n[j].toNat : Int)]) := by
              show _ = _
              rw [hbs, hbyte]; unfold keyB; rw [if_neg hz]; rfl
            have HJ := (show Hid _ from hjj)
            clear hbs hbyte hz hjj
            go_wp2_with (first | (go_at_call 39; refine (lower_byte _ _).mono ?_; rintro e w' ⟨rfl, rfl⟩) | (at_builtin; refine wpList_inv HI2 rfl _ _ rfl rfl [lowI (n[j].toNat : Int)] _ rfl 1 rfl 1 rfl (by have := HX2.out; omega) ?_; intro v' w2 HI3))
            go_roundw
            case rel => exact ⟨k + 1, by omega, by have := HJ.out; go_num, by rw [HB.out, ← List.append_assoc]; exact HI3⟩
            case measure => have := HJ.out; simp [intOf]; omega
        · have h1 : o + n[o].toNat < o + (1 + k) := by omega
          obtain rfl : k = l.length := by omega
          generalize hjj : o + (1 + l.length) = j at *
          have HJ := (show Hid _ from hjj); clear hjj
          go_wp2_with (at_builtin; refine wpList_inv HI2 rfl _ _ rfl rfl [0, 1] _ rfl 2 rfl 2 rfl HX2.out ?_; intro v' w2 HI3)
          go_roundw
          case rel => exact ⟨c, by omega, rfl, by rw [HKS.out]; rw [List.take_length] at HI3; simpa using HI3⟩
          case measure => simp [intOf]

set_option maxHeartbeats 400000 in
theorem zzkey_any (n : ByteArray) (ls : List (List UInt8)) (base : Nat) (v : Value) (zs : List Int) (w : World) (hn : n.data.toList = nm ls) (hg : Good ls) (h255 : n.size ≤ 255) (hown : Own8 w base v zs) (hbase : base ≤ w.heap.size) (hzs : zs.length ≤ 1048576) :
    Calls Try.prog 12 #[v, .string n] w fun e w' => ∃ v', e = .returned v' ∧ Own8 w' base v' (zs ++ key ls) ∧ Below base w w' := by
  have HN := (show Hid _ from hn); clear hn
  have HG := (show Hid _ from hg); clear hg
  have HOW := (show Hid _ from hown); clear hown
  go_enter Try.func12, Try.ntmps12
  go_wp2_with fail
  refine (key_any n ls base v zs _ HN.out HG.out h255 HOW.out hbase hzs).mono ?_
  rintro e w' ⟨v', rfl, h1, h2⟩
  have H1 := (show Hid _ from h1); clear h1
  go_wp2_with fail
  go_ret
  exact ⟨v', rfl, H1.out, h2⟩

end Go.Proofs.Qxb6003660a
