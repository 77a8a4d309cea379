/-
  DERIVED. Seat b6629317aD: the contract of zzHeader.
-/
import Derived.Test.Qxb6629317aDoorHead
import Derived.Maps.AppendAt
namespace Go.Proofs.Qxb6629317aDoor
open Go.RowKit

theorem take_snoc_getD (l : List UInt8) (k : Nat) (h : k < l.length) : l.take (k + 1) = l.take k ++ [l.getD k 0] := by
  rw [List.take_succ_eq_append_getElem h, List.getD, List.getElem?_eq_getElem h]
  rfl

set_option maxHeartbeats 1600000 in
theorem header_any (n : Nat) (w : World) (hn : n ≤ 1048576) : Calls Tryd.prog 12 #[.int .i64 n] w fun e w' => ∃ v, e = .returned v ∧ Own w.heap.size w' v (num 42 n) ∧ Below w.heap.size w w' := by
  obtain ⟨i0, hi0, hz0, hz1, hz2⟩ := info_parts Tryd.info5
  have hdl := digits_le n hn
  go_enter Tryd.func12, Tryd.ntmps12
  go_wp2_with fail
  have hb0 : Below w.heap.size w (w.alloc (.cells #[.int .u8 42] 5)) := (Below.refl _ _).alloc (Nat.le_refl _) _
  refine (itoa_any n _ hn).mono ?_
  rintro e w1 ⟨v1, rfl, hown1, hb1⟩
  have hout := own_keep (own_one w 42) (Nat.le_refl _) hb1
  have hb01 := hb0.trans (hb1.mono hb0.size)
  have hbw : w.heap.size < w1.heap.size := by have := hb1.size; simp at this; omega
  have hdp : 0 < (Lib.decDigits n).length := by rw [Lib.decDigits_length]; exact Lib.nDigits_pos n
  obtain ⟨g, c, rfl, hgb, hgw, hcell⟩ := own_shape hown1 hdp
  simp at hgb
  obtain ⟨ds, hds⟩ : ∃ ds, ds = Lib.decDigits n := ⟨_, rfl⟩
  have HDS : Hid (ds = Lib.decDigits n) := hds
  rw [← hds] at hcell hdl hdp
  rw [← hds]
  clear hds hown1
  have HC : Hid (∀ j, j < ds.length → w1.cell? ⟨g, j, none⟩ = some (.int .u8 ((ds.getD j 0).toNat : Int))) := hcell
  clear hcell
  go_wp2_with fail
  go_loopw [3, 5] (fun v i wr => ∃ k : Nat, k ≤ ds.length ∧ i = .int .i64 k ∧ Own w.heap.size wr v (42 :: ds.take k) ∧ Below w.heap.size w wr ∧ wr.heap[g]? = w1.heap[g]? ∧ v.ownBlock ≠ some g ∧ g < wr.heap.size) (fun _ i _ => ds.length - (intOf i).toNat)
  case atStart => exact ⟨0, Nat.zero_le _, rfl, hout, hb01, rfl, by simp [Value.ownBlock]; omega, hgw⟩
  case round =>
    clear hout hb01 hgw
    obtain ⟨k, hk, rfl, hown, hbk, hblk, hvg, hgw⟩ := hrel
    have hsz := hbk.size
    have hll : (42 :: ds.take k).length = k + 1 := by rw [List.length_cons, List.length_take]; omega
    by_cases hlt : k < ds.length
    · have hc : wr.cell? ⟨g, k, none⟩ = some (.int .u8 ((ds.getD k 0).toNat : Int)) := (World.cell?_of_block (w := w1) hblk).trans (HC.out k hlt)
      obtain ⟨y, hy⟩ : ∃ y, y = ds.getD k 0 := ⟨_, rfl⟩
      rw [← hy] at hc
      have HT : Hid (ds.take (k + 1) = ds.take k ++ [y]) := by rw [hy]; exact take_snoc_getD ds k hlt
      have HBL : Hid (wr.heap[g]? = w1.heap[g]?) := hblk
      clear hy hblk
      unfold Own at hown
      rw [hll] at hown
      go_wp2_with (first
        | (at_builtin; refine wpList_append_own_at _ rfl _ _ 22 rfl w.heap.size 5 i0 (.int .u8 0) 1 1 Tryd.underlying22 hi0 hz0 hz1 hz2 rfl (by decide) _ _ _ rfl (hown.alloc _) ⟨wr.heap.size, 0, none⟩ 1 1 [.int .u8 (y.toNat : Int)] rfl rfl (cell_one_new _ _ _) (one_cell _) (by unfold maxLen; omega) (by omega) (by simp; omega) ?_; intro v2 w2 hown2 hgrow2 hnil2 hloc2))
      have hb2 : Below w.heap.size w w2 := (hbk.alloc hsz _).grown hgrow2 (by simp; omega) (fun x hx => (hown.lt x hx).1)
      have hs2 := hgrow2.size
      simp at hs2 hloc2
      have hblk2 : w2.heap[g]? = w1.heap[g]? := by
        rw [hgrow2.block g (by simp; omega) (fun e => hvg e.symm), Below.heap_alloc _ _ _ hgw]
        exact HBL.out
      have hv2 : v2.ownBlock ≠ some g := by
        rcases hloc2 with h | h
        · rw [h]; exact hvg
        · rw [h]; simp; omega
      have hown3 : Own w.heap.size w2 v2 (42 :: ds.take (k + 1)) := by
        refine own_of hown2 ?_ ?_
        · rw [HT.out]; simp; omega
        · rw [HT.out]; simp [Lib.byteCells]
      clear hown2 hloc2
      go_roundw
      case rel => exact ⟨k + 1, by omega, by go_num, hown3, hb2, hblk2, hv2, by omega⟩
      case measure => simp [intOf]; omega
    · obtain rfl : k = ds.length := by omega
      rw [List.take_length] at hown hll
      unfold Own at hown
      rw [hll] at hown
      clear hblk hvg
      go_wp2_with (first
        | (at_builtin; refine wpList_append_own _ rfl (.tmp 22) (.tmp 23) 22 rfl w.heap.size 5 i0 (.int .u8 0) 1 1 Tryd.underlying22 hi0 hz0 hz1 hz2 rfl (by decide) _ _ _ rfl (hown.alloc _) ⟨wr.heap.size, 0, none⟩ 1 1 [.int .u8 13] rfl rfl (cell_one_new _ _ _) (one_cell _) (by unfold maxLen; omega) (by omega) (by simp; omega) ?_; intro v2 w2 hown2 hgrow2 hnil2)
        | (at_builtin; refine wpList_append_own _ rfl (.tmp 25) (.tmp 26) 22 rfl w.heap.size 5 i0 (.int .u8 0) 1 1 Tryd.underlying22 hi0 hz0 hz1 hz2 rfl (by decide) _ _ _ rfl (hown2.alloc _) ⟨w2.heap.size, 0, none⟩ 1 1 [.int .u8 10] rfl rfl (cell_one_new _ _ _) (one_cell _) (by unfold maxLen; omega) (by omega) (by have := hgrow2.size; simp at this ⊢; omega) ?_; intro v3 w3 hown3 hgrow3 hnil3))
      have hb2 : Below w.heap.size w w2 := (hbk.alloc hsz _).grown hgrow2 (by simp; omega) (fun x hx => (hown.lt x hx).1)
      have hb3 : Below w.heap.size w w3 := (hb2.alloc hb2.size _).grown hgrow3 (by have := hb2.size; simp; omega) (fun x hx => (hown2.lt x hx).1)
      go_ret
      refine ⟨_, rfl, own_of hown3 ?_ ?_, hb3⟩
      · rw [num, ← HDS.out]; simp
      · rw [num, ← HDS.out]; simp [Lib.byteCells]

end Go.Proofs.Qxb6629317aDoor
