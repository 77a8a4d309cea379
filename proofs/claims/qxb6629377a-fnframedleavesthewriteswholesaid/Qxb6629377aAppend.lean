/-
  DERIVED. Seat b6629377a: the contract of Writes.AppendTo.
-/
import Derived.Test.Qxb6629377aSize
namespace Go.Proofs.Qxb6629377a
open Go.RowKit

/-- The writes' own bytes: read from wh on. -/
def DataAt (B : Nat) (w : World) (Ad : Option Addr) (cd : Nat) (D : List UInt8) (wh : Nat) : Prop :=
  (Ad = none → D = [] ∧ cd = 0) ∧ D.length ≤ cd ∧ cd ≤ maxLen ∧ ∃ g, (Ad ≠ none → Ad = some ⟨g, 0, none⟩ ∧ g < B) ∧ ∀ j, wh ≤ j → j < D.length → w.cell? ⟨g, j, none⟩ = some (.int .u8 ((D.getD j 0).toNat : Int))

theorem DataAt.on {B B' : Nat} {w w' : World} {Ad : Option Addr} {cd : Nat} {D : List UInt8} {wh : Nat} (h : DataAt B w Ad cd D wh) (hb : Below B' w w') (hB : B ≤ B') : DataAt B w' Ad cd D wh := by
  obtain ⟨h1, h2, h3, g, h4, h5⟩ := h
  refine ⟨h1, h2, h3, g, h4, fun j hj hj' => ?_⟩
  have hA : Ad ≠ none := fun e => by rw [(h1 e).1] at hj'; simp at hj'
  have := (h4 hA).2
  rw [hb.cell (p := ⟨g, j, none⟩) (by show g < B'; omega)]
  exact h5 j hj hj'

theorem DataAt.up {B B' : Nat} {w : World} {Ad : Option Addr} {cd : Nat} {D : List UInt8} {wh : Nat} (h : DataAt B w Ad cd D wh) (hB : B ≤ B') : DataAt B' w Ad cd D wh := by
  obtain ⟨h1, h2, h3, g, h4, h5⟩ := h
  exact ⟨h1, h2, h3, g, fun h => ⟨(h4 h).1, by have := (h4 h).2; omega⟩, h5⟩

/-- Where a cut of the writes' bytes lies. -/
def cutAt (Ad : Option Addr) (cd a : Nat) : Option Addr := if cd = a then Ad else Ad.map (·.add a)

theorem DataAt.cut {B : Nat} {w : World} {Ad : Option Addr} {cd : Nat} {D : List UInt8} {wh : Nat} (h : DataAt B w Ad cd D wh) (a b : Nat) (ha : wh ≤ a) (hab : a ≤ b) (hb : b ≤ D.length) :
    (∀ w', (Instr.slice 22 (.slice Ad D.length cd) (some (.int .i64 a)) (some (.int .i64 b)) none).run Try.prog w' = .ok (.slice (cutAt Ad cd a) (b - a) (cd - a)) w') ∧ WordAt B w (cutAt Ad cd a) (cd - a) (seg D a b) := by
  obtain ⟨h1, h2, h3, g, h4, h5⟩ := h
  refine ⟨fun w' => ?_, fun e => ?_, g, a, fun hp => ?_, fun j hj => ?_⟩
  · rw [run_slice_lh w' 22 Ad D.length cd Try.underlying22 .i64 .i64 (a : Int) (b : Int) (by omega) (by omega) (by omega)]
    simp [Result.andThen, sliced, go_sem, cutAt]
  · have hA : Ad = none := by
      unfold cutAt at e
      split at e
      · exact e
      · simpa using e
    obtain ⟨rfl, rfl⟩ := h1 hA
    exact ⟨by simp [seg], by omega⟩
  · rw [seg_len _ _ _ hb] at hp
    have hA : Ad ≠ none := fun e => by rw [(h1 e).1] at hb; simp at hb; omega
    obtain ⟨rfl, hg⟩ := h4 hA
    refine ⟨?_, hg⟩
    unfold cutAt
    rw [if_neg (by omega)]
    simp [Addr.add]
    exact fun e => e.symm
  · rw [seg_len _ _ _ hb] at hj
    rw [seg_getD _ _ _ _ hj]
    exact h5 (a + j) (by omega) (by omega)

theorem DataAt.rest {B : Nat} {w : World} {Ad : Option Addr} {cd : Nat} {D : List UInt8} {wh : Nat} (h : DataAt B w Ad cd D wh) (a : Nat) (ha : wh ≤ a) (hab : a ≤ D.length) :
    (∀ w', (Instr.slice 22 (.slice Ad D.length cd) (some (.int .i64 a)) none none).run Try.prog w' = .ok (.slice (cutAt Ad cd a) (D.length - a) (cd - a)) w') ∧ WordAt B w (cutAt Ad cd a) (cd - a) (seg D a D.length) := by
  refine ⟨fun w' => ?_, (h.cut a D.length ha hab (Nat.le_refl _)).2⟩
  rw [run_slice_l w' 22 Ad D.length cd Try.underlying22 .i64 (a : Int) (by omega) (by omega)]
  simp [Result.andThen, sliced, go_sem, cutAt]

theorem block_kept {w w' : World} {v : Value} {g : Nat} (h : w.grownBy w' v.ownBlock) (hg : g < w.heap.size) (hv : v.ownBlock ≠ some g) : w'.heap[g]? = w.heap[g]? := h.block g hg (fun e => hv e.symm)
theorem away {w : World} {v v' : Value} {g : Nat} (h : v'.ownBlock = v.ownBlock ∨ v'.ownBlock = some w.heap.size) (hg : g < w.heap.size) (hv : v.ownBlock ≠ some g) : v'.ownBlock ≠ some g := by
  rcases h with h | h
  · rw [h]; exact hv
  · rw [h]; intro e; injection e with e; omega

set_option maxHeartbeats 1600000 in
theorem appendTo_any (B U : Nat) (n : Int) (wh : Nat) (Ad AL : Option Addr) (cd cL : Nat) (D : List UInt8) (ats : List Nat) (Ls : List (List UInt8)) (v0 : Value) (l : List UInt8) (w : World)
    (hown0 : Own B w v0 l) (hD : DataAt U w Ad cd D wh) (hL : LargeAt U w AL ats Ls) (hUB : U ≤ B) (hBw : B ≤ w.heap.size) (hord : InOrder D wh ats Ls.length) (hlim : l.length + (D.length - wh) + sumW Ls Ls.length ≤ 10000000) (hdl : D.length ≤ 1048576) (hll : Ls.length ≤ 1048576) :
    Calls Try.prog 13 #[.agg #[.int .i64 n, .int .i64 wh, .slice Ad D.length cd, .slice AL Ls.length cL], v0] w fun e w' => ∃ v, e = .returned v ∧ Own B w' v (l ++ logForm D wh ats Ls) ∧ Below B w w' ∧ capOf v0 ≤ capOf v := by
  have hv0 : v0.ownBlock ≠ some w.heap.size := fun e => by have := (World.ownsRow.lt hown0 _ e).2; omega
  go_enter Try.func13, Try.ntmps13
  go_wp2_with fail
  go_loopw [1, 5, 13] (fun v f i wr => ∃ k q : Nat, k ≤ Ls.length ∧ i = .int .i64 k ∧ f = .int .i64 q ∧ q = fr wh ats k ∧ Own B wr v (l ++ logTo D wh ats Ls k) ∧ Below B w wr ∧ w.heap.size < wr.heap.size ∧ v.ownBlock ≠ some w.heap.size ∧ capOf v0 ≤ capOf v ∧
      wr.heap[w.heap.size]? = some (.cells #[.int .i64 n, .int .i64 wh, .slice Ad D.length cd, .slice AL Ls.length cL] 33 (0, 0))) (fun _ _ i _ => Ls.length - (intOf i).toNat)
  case atStart => exact ⟨0, wh, Nat.zero_le _, rfl, rfl, rfl, by rw [logTo, List.append_nil]; exact own_keep hown0 (Nat.le_refl _) ((Below.refl _ _).alloc (Nat.le_refl _) _), (Below.refl _ _).alloc hBw _, by simp, hv0, Nat.le_refl _, heap_alloc_new w _⟩
  case round =>
    obtain ⟨k, q, hk, rfl, rfl, hq, hown, hbk, hsz, hvg, hcp, hbox⟩ := hrel
    have hor := hord.le k hk
    rw [← hq] at hor
    have hlen := logTo_len Ls hord k hk
    rw [← hq] at hlen
    have hsm := sumW_mono Ls hk
    have HQ : Hid (q = fr wh ats k) := hq
    have hBr := hbk.size
    have hDr := hD.on hbk hUB
    have hLr := hL.on hbk hUB
    have c1 : wr.cell? ⟨w.heap.size, 2, none⟩ = some (.slice Ad D.length cd) := by rw [Lib.cell_of_heap hbox]; rfl
    obtain ⟨G, hG⟩ : ∃ G, G = logTo D wh ats Ls k := ⟨_, rfl⟩
    have HG : Hid (G = logTo D wh ats Ls k) := hG
    rw [← hG] at hown hlen
    have HBOX : Hid (wr.heap[w.heap.size]? = some (.cells #[.int .i64 n, .int .i64 wh, .slice Ad D.length cd, .slice AL Ls.length cL] 33 (0, 0))) := hbox
    clear hq hG hbox hown0 hD hL
    by_cases hlt : k < Ls.length
    · obtain ⟨g, h1, h2⟩ := hLr
      obtain ⟨rfl, hgB⟩ := h1 (by omega)
      obtain ⟨e1, A, C, e2, e3⟩ := h2 k hlt
      have ho2 := hord.2 k hlt
      have hsm1 : sumW Ls (k + 1) ≤ sumW Ls Ls.length := sumW_mono Ls hlt
      obtain ⟨X, hX⟩ : ∃ X, X = Ls.getD k [] := ⟨_, rfl⟩
      have HS : Hid (sumW Ls (k + 1) = sumW Ls k + X.length) := by rw [hX]; rfl
      obtain ⟨p, hp⟩ : ∃ p, p = ats.getD k 0 := ⟨_, rfl⟩
      rw [show fr wh ats (k + 1) = p from hp.symm, ← HQ.out] at ho2
      have HP : Hid (p = fr wh ats (k + 1)) := hp
      obtain ⟨hcut, hseg⟩ := hDr.cut q p hor.1 ho2.1 ho2.2
      obtain ⟨S, hS⟩ : ∃ S, S = seg D q p := ⟨_, rfl⟩
      have hSl : S.length = p - q := by rw [hS]; exact seg_len _ _ _ ho2.2
      have HSL : Hid (p - q = S.length) := hSl.symm
      rw [← hS] at hseg
      rw [← hX] at e2 e3
      rw [← hp] at e1
      have HN : Hid (l ++ logTo D wh ats Ls (k + 1) = l ++ G ++ S ++ X) := by
        rw [logTo, HG.out, hS, hX, show fr wh ats (k + 1) = p from hp.symm, ← HQ.out]
        show _ = _
        simp only [List.append_assoc]
      have HSEG : Hid (WordAt U wr (cutAt Ad cd q) (cd - q) S) := hseg
      have HX3 : Hid (WordAt U wr A C X) := e3
      have hvx : u1.ownBlock ≠ some wr.heap.size := fun e => by have := (World.ownsRow.lt hown _ e).2; omega
      have hal : Below B wr (wr.alloc (.cells #[.int .i64 p, .slice A X.length C] 38 (0, 0))) := (Below.refl _ _).alloc (by omega) _
      have HL1 : Hid ((l ++ G).length + S.length ≤ 140737488355328) := by
        show _ ≤ _
        have := HSL.out
        rw [List.length_append]; omega
      have HL2 : Hid ((l ++ G ++ S).length + X.length ≤ 140737488355328) := by
        show _ ≤ _
        have := HSL.out
        have := HS.out
        rw [List.length_append, List.length_append]; omega
      clear hX hp hS h1 h2 hDr hseg e3 hSl
      go_wp2_with (first
        | (at_builtin; refine wpList_append_word rfl (.tmp 17) (.tmp 23) rfl B U u1 (l ++ G) S rfl (own_keep hown (Nat.le_refl _) ((Below.refl _ _).alloc (Nat.le_refl _) _)) (cutAt Ad cd q) (p - q) (cd - q) HSL.out rfl (HSEG.out.on hal hUB) HL1.out (by simp; omega) ?_
           intro v2 w2 hown2 hgr2 hloc2 hb2 hcp2
           have hx2 : w2.heap[wr.heap.size]? = some (.cells #[.int .i64 p, .slice A X.length C] 38 (0, 0)) := (block_kept hgr2 (by simp) hvx).trans (heap_alloc_new wr _)
           have d1 : w2.cell? ⟨wr.heap.size, 1, none⟩ = some (.slice A X.length C) := by rw [Lib.cell_of_heap hx2]; rfl)
        | (at_builtin; refine wpList_append_word rfl (.tmp 25) (.tmp 27) rfl B U v2 (l ++ G ++ S) X rfl hown2 A X.length C rfl rfl ((HX3.out.on hal hUB).on hb2 hUB) HL2.out (by have := hgr2.size; simp at this; omega) ?_
           intro v3 w3 hown3 hgr3 hloc3 hb3 hcp3
           have hs2 := hgr2.size
           simp at hs2
           have hx3 : w3.heap[wr.heap.size]? = some (.cells #[.int .i64 p, .slice A X.length C] 38 (0, 0)) := (block_kept hgr3 (by omega) (away hloc2 (by simp) hvx)).trans hx2
           have d2 : w3.cell? ⟨wr.heap.size, 0, none⟩ = some (.int .i64 p) := by rw [Lib.cell_of_heap hx3]; rfl))
      have hs3 := hgr3.size
      have hsA : w.heap.size < (wr.alloc (.cells #[.int .i64 p, .slice A X.length C] 38 (0, 0))).heap.size := by simp; omega
      have hv2 : v2.ownBlock ≠ some w.heap.size := away hloc2 hsA hvg
      have hv3 : v3.ownBlock ≠ some w.heap.size := away hloc3 (by omega) hv2
      have hbx : w3.heap[w.heap.size]? = some (.cells #[.int .i64 n, .int .i64 wh, .slice Ad D.length cd, .slice (some ⟨g, 0, none⟩) Ls.length cL] 33 (0, 0)) :=
        (block_kept hgr3 (by omega) hv2).trans ((block_kept hgr2 hsA hvg).trans ((Below.heap_alloc _ _ _ hsz).trans HBOX.out))
      rw [← HN.out] at hown3
      go_roundw
      case rel => exact ⟨k + 1, p, by omega, by go_num, rfl, HP.out, hown3, ((hbk.trans hal).trans hb2).trans hb3, by omega, hv3, Nat.le_trans hcp (Nat.le_trans hcp2 hcp3), hbx⟩
      case measure => simp [intOf]; omega
    · obtain rfl : k = Ls.length := by omega
      obtain ⟨hcut, hseg⟩ := hDr.rest q hor.1 hor.2
      obtain ⟨S, hS⟩ : ∃ S, S = seg D q D.length := ⟨_, rfl⟩
      have HSL : Hid (D.length - q = S.length) := by rw [hS]; exact (seg_len _ _ _ (Nat.le_refl _)).symm
      rw [← hS] at hseg
      have HN : Hid (l ++ logForm D wh ats Ls = l ++ G ++ S) := by
        rw [logForm, HG.out, hS, ← HQ.out]
        show _ = _
        simp only [List.append_assoc]
      have HSEG : Hid (WordAt U wr (cutAt Ad cd q) (cd - q) S) := hseg
      have HL1 : Hid ((l ++ G).length + S.length ≤ 140737488355328) := by
        show _ ≤ _
        have := HSL.out
        rw [List.length_append]; omega
      clear hS hseg hDr
      go_wp2_with (first
        | (at_builtin; refine wpList_append_word rfl (.tmp 32) (.tmp 36) rfl B U u1 (l ++ G) S rfl hown (cutAt Ad cd q) (D.length - q) (cd - q) HSL.out rfl HSEG.out HL1.out (by omega) ?_; intro v2 w2 hown2 hgr2 hloc2 hb2 hcp2))
      go_ret
      rw [← HN.out] at hown2
      exact ⟨_, rfl, hown2, hbk.trans hb2, Nat.le_trans hcp hcp2⟩

end Go.Proofs.Qxb6629377a
