/-
  DERIVED. Seat b6629377a: the contract of Writes.Framed.
-/
import Derived.Test.Qxb6629377aLog
namespace Go.Proofs.Qxb6629377a
open Go.RowKit

/-- 'append(dst, word...)' as one step of a region that draws its order. -/
theorem step_append_word {w : World} {ops : Array Oper} {o : Oper} {a : Act} {K : Act → World → Prop} {Q : Exit → Act → World → Prop} {E : Prop} (hgd : o.guard = none) (s x : Operand)
    (ho : o.op = .call { callee := .builtin .append, args := #[s, x], argTypes := #[22, 22] }) (B B' : Nat) (v : Value) (l0 l : List UInt8) (hs : a.eval s = v) (hown : Own B w v l0) (A : Option Addr) (n C : Nat) (hn : n = l.length) (hx : a.eval x = .slice A n C)
    (hw : WordAt B' w A C l) (hlim : l0.length + l.length ≤ 140737488355328) (hBw : B ≤ w.heap.size)
    (h : ∀ v' w', Own B w' v' (l0 ++ l) → w.grownBy w' v.ownBlock → (v'.ownBlock = v.ownBlock ∨ v'.ownBlock = some w.heap.size) → Below B w w' → capOf v ≤ capOf v' → K (a.put o.dst v') w') :
    if Region.wanted o (yielded ops a.tmps) = true then Oper.wp Try.prog o a w K Q else E := by
  subst hn
  obtain ⟨i0, hi0, hz0, hz1, hz2⟩ := info_parts Try.info5
  have hw' := hw
  obtain ⟨h1, b, off, h2, h3⟩ := hw'
  unfold Own at hown
  cases A with
  | none =>
    obtain ⟨rfl, rfl⟩ := h1 rfl
    have hwt : Region.wanted o (yielded ops a.tmps) = true := by simp [Region.wanted, hgd]
    rw [if_pos hwt]
    have hrun := run_append_owned_none (P := Try.prog) (w := w) B 22 o.type 5 i0 1 Try.underlying22 hi0 v _ _ hown
    have hh := h v w (by rw [List.append_nil]; exact hown) (World.grownBy.refl _ _) (.inl rfl) (Below.refl _ _) (Nat.le_refl _)
    have hx' : a.eval x = .slice none 0 0 := hx
    unfold Oper.wp
    simp [execOp, ho, resolve, invoke, builtin, hs, hx', hrun, Result.andThen]
    exact hh
  | some ad =>
    by_cases hfit : l0.length + l.length ≤ capOf v ∧ v ≠ .slice none 0 0
    · rcases hown.2 with ⟨hnil, _⟩ | ⟨g, cap, cur, rfl, hbg, hg, r⟩
      · exact absurd hnil hfit.2
      · have hwt : Region.wanted o (yielded ops a.tmps) = true := by simp [Region.wanted, hgd]
        rw [if_pos hwt]
        obtain ⟨w', hrun, hown', hgrow⟩ := run_append_fits (P := Try.prog) w B 22 o.type 5 i0 1 Try.underlying22 hi0 hz1 g l0.length cap (Lib.byteCells l0) hown ad l.length C (Lib.byteCells l) (by rw [Lib.byteCells_length, Nat.mul_one]) (word_src hw rfl) (byte_one l) hfit.1
        have hh := h _ w' (own_of hown' (by rw [List.length_append]) (by rw [Lib.byteCells_append])) hgrow (.inl rfl) ((Below.refl B w).grown hgrow hBw (fun k hk => (hown.lt k hk).1)) (Nat.le_refl _)
        unfold Oper.wp
        simp [execOp, ho, resolve, invoke, builtin, hs, hx, hrun, Result.andThen]
        exact hh
    · refine step_append_own hgd s x 22 ho B 5 i0 (.int .u8 0) 1 1 Try.underlying22 hi0 hz0 hz1 hz2 rfl (by decide) v _ _ hs hown ad l.length C (Lib.byteCells l) hx (by rw [Lib.byteCells_length, Nat.mul_one]) (word_src hw rfl) (byte_one l) (by unfold maxLen; omega) (by omega) hBw ?_
      intro v' w' hown' hgrow hloc
      refine h v' w' (own_of hown' (by rw [List.length_append]) (by rw [Lib.byteCells_append])) hgrow hloc ?_ ?_
      · exact (Below.refl B w).grown hgrow hBw (fun k hk => (hown.lt k hk).1)
      · have hc' := owns_cap hown'
        by_cases hnil : v = .slice none 0 0
        · rw [hnil]; exact Nat.zero_le _
        · have : ¬ l0.length + l.length ≤ capOf v := fun e => hfit ⟨e, hnil⟩
          omega

theorem cell4 {w : World} {g : Nat} {a b c d : Value} {t : TypeId} {f : Nat × Nat} (h : w.heap[g]? = some (.cells #[a, b, c, d] t f)) : w.cell? ⟨g, 0, none⟩ = some a ∧ w.cell? ⟨g, 1, none⟩ = some b ∧ w.cell? ⟨g, 2, none⟩ = some c ∧ w.cell? ⟨g, 3, none⟩ = some d := by
  refine ⟨?_, ?_, ?_, ?_⟩ <;> (rw [Lib.cell_of_heap h]; rfl)

/-- What Framed answers: the bytes R, with room for extra more. -/
def FramedAt (w : World) (v : Value) (R : List UInt8) (extra : Nat) : Prop := ∃ A C, v = .slice A R.length C ∧ R.length + extra ≤ C ∧ C ≤ maxLen ∧ WordAt w.heap.size w A C R

/-- What Framed leaves as it was: every other block, and the writes' bytes from wh on. -/
def FramedLeaves (w w' : World) (Ad : Option Addr) (wh n : Nat) : Prop :=
  w.grownBy w' (Ad.map (·.block)) ∧ (∀ g, Ad = some ⟨g, 0, none⟩ → ∀ j, wh ≤ j → w'.cell? ⟨g, j, none⟩ = w.cell? ⟨g, j, none⟩) ∧ (0 < n → Below w.heap.size w w')

theorem data_of_own {B : Nat} {w : World} {Ad : Option Addr} {cd : Nat} {D : List UInt8} (wh : Nat) (h : Own B w (.slice Ad D.length cd) D) : DataAt w.heap.size w Ad cd D wh := by
  have h' := h
  unfold Own at h'
  rcases h'.2 with ⟨hn, h0⟩ | ⟨g, cap, cur, hv, hbg, hg, hc, hm, r⟩
  · injection hn with e1 _ e2
    subst e1; subst e2
    have : D = [] := List.eq_nil_of_length_eq_zero h0
    subst this
    exact ⟨fun _ => ⟨rfl, rfl⟩, Nat.le_refl _, Nat.zero_le _, 0, fun h => absurd rfl h, fun j _ hj => absurd hj (by simp)⟩
  · injection hv with e1 _ e2
    subst e1; subst e2
    refine ⟨fun h => by (cases h), hc, hm, g, fun _ => ⟨rfl, (World.ownsRow.lt h' g rfl).2⟩, fun j _ hj => ?_⟩
    rw [h'.cellAt j (by omega), Lib.byteCells, List.getElem?_map, List.getElem?_eq_getElem hj, List.getD, List.getElem?_eq_getElem hj]
    rfl

theorem block_cell {w w' : World} {g : Nat} (h : w'.heap[g]? = w.heap[g]?) (j : Nat) : w'.cell? ⟨g, j, none⟩ = w.cell? ⟨g, j, none⟩ := World.cell?_of_block (a := ⟨g, j, none⟩) h

set_option maxHeartbeats 3200000 in
/-- The slow road: a new array. -/
theorem framed_slow (B : Nat) (n : Int) (wh : Nat) (Ad AL Af : Option Addr) (cd cL cf extra : Nat) (D F : List UInt8) (ats : List Nat) (Ls : List (List UInt8)) (w : World)
    (hown : Own B w (.slice Ad D.length cd) D) (hL : LargeAt w.heap.size w AL ats Ls) (hF : WordAt w.heap.size w Af cf F) (hord : InOrder D wh ats Ls.length) (hfl : F.length ≤ 1048576) (hdl : D.length ≤ 1048576) (hsum : Ls.length + sumW Ls Ls.length ≤ 1048576) (hex : extra ≤ 65536)
    (htest : F.length ≤ wh → Ls.length = 0 → ¬ extra ≤ cd - D.length) :
    Calls Try.prog 14 #[.agg #[.int .i64 n, .int .i64 wh, .slice Ad D.length cd, .slice AL Ls.length cL], .slice Af F.length cf, .int .i64 extra] w fun e w' => ∃ v, e = .returned v ∧ FramedAt w' v (F ++ logForm D wh ats Ls) extra ∧ FramedLeaves w w' Ad wh Ls.length := by
  obtain ⟨i0, hi0, hz0, hz1, hz2⟩ := info_parts Try.info5
  have hD := data_of_own wh hown
  have hwd := hord.1
  have hcd := hD.2.1
  have hcm := hD.2.2.1
  unfold maxLen at hcm
  have HLF := logForm_len Ls hord
  have hcase : (¬ F.length ≤ wh) ∨ (F.length ≤ wh ∧ ¬ Ls = []) ∨ (F.length ≤ wh ∧ Ls = [] ∧ (cd : Int) - (D.length : Int) < (extra : Int)) := by
    by_cases h1 : F.length ≤ wh
    · by_cases h2 : Ls = []
      · exact .inr (.inr ⟨h1, h2, by have := htest h1 (by rw [h2]; rfl); omega⟩)
      · exact .inr (.inl ⟨h1, h2⟩)
    · exact .inl h1
  clear htest
  obtain ⟨sz, hsz⟩ : ∃ sz, sz = D.length - wh + sumW Ls Ls.length := ⟨_, rfl⟩
  have HSZ : Hid (sz = D.length - wh + sumW Ls Ls.length) := hsz
  have hszb : sz ≤ 2097152 := by omega
  have hmkb : i0.bytes * (F.length + sz + extra) ≤ 281474976710656 := by rw [hz2]; omega
  have hal : Hid (Below w.heap.size w (w.alloc (.cells #[.int .i64 n, .int .i64 wh, .slice Ad D.length cd, .slice AL Ls.length cL] 33 (0, 0)))) := (Below.refl _ _).alloc (Nat.le_refl _) _
  have hals : Hid (w.heap.size < (w.alloc (.cells #[.int .i64 n, .int .i64 wh, .slice Ad D.length cd, .slice AL Ls.length cL] 33 (0, 0))).heap.size) := show _ < _ by simp
  have hbox0 : Hid ((w.alloc (.cells #[.int .i64 n, .int .i64 wh, .slice Ad D.length cd, .slice AL Ls.length cL] 33 (0, 0))).heap[w.heap.size]? = some (.cells #[.int .i64 n, .int .i64 wh, .slice Ad D.length cd, .slice AL Ls.length cL] 33 (0, 0))) := heap_alloc_new w _
  have HS : Hid (Calls Try.prog 12 #[.agg #[.int .i64 n, .int .i64 wh, .slice Ad D.length cd, .slice AL Ls.length cL]] (w.alloc (.cells #[.int .i64 n, .int .i64 wh, .slice Ad D.length cd, .slice AL Ls.length cL] 33 (0, 0))) fun e w' => e = .returned (.int .i64 (sz : Int)) ∧ Below (w.alloc (.cells #[.int .i64 n, .int .i64 wh, .slice Ad D.length cd, .slice AL Ls.length cL] 33 (0, 0))).heap.size (w.alloc (.cells #[.int .i64 n, .int .i64 wh, .slice Ad D.length cd, .slice AL Ls.length cL] 33 (0, 0))) w') := by
    rw [hsz]
    exact size_any n wh D.length Ad AL cd cL ats Ls _ hdl hwd hsum ((hL.on hal.out (Nat.le_refl _)).up (Nat.le_of_lt hals.out))
  clear hsz
  go_enter Try.func14, Try.ntmps14
  rcases hcase with hc | ⟨hc, hc2⟩ | ⟨hc, hc2, hc3⟩
  all_goals
    try subst hc2
    go_wp2_with fail
    refine HS.out.mono ?_
    rintro e w2 ⟨rfl, hb2⟩
    have hbw2 : Below w.heap.size w w2 := hal.out.trans (hb2.mono hal.out.size)
    have hs2 := hb2.size
    have hsw := hals.out
    have hbox2 : w2.heap[w.heap.size]? = some (.cells #[.int .i64 n, .int .i64 wh, .slice Ad D.length cd, .slice AL _ cL] 33 (0, 0)) := (hb2.block _ hals.out).trans hbox0.out
    have hsb : w.heap.size < w2.heap.size := by omega
    go_wp2_with (first
      | (at_make; refine wpList_make_own _ rfl _ _ 22 rfl w2.heap.size 5 i0 (.int .u8 0) 1 Try.underlying22 hi0 hz0 hz1 .i64 .i64 _ (F.length + sz + extra) rfl rfl (by omega) hmkb (by unfold maxLen; omega) (Nat.le_refl _) ?_; intro w3 hown3 hgr3))
    have hs3 := hgr3.size
    have hbox3 : w3.heap[w.heap.size]? = some (.cells #[.int .i64 n, .int .i64 wh, .slice Ad D.length cd, .slice AL _ cL] 33 (0, 0)) := (hgr3.block _ hsb (by simp)).trans hbox2
    have hbw3 : Below w.heap.size w w3 := hbw2.grown hgr3 hbw2.size (fun q hq => by cases hq)
    obtain ⟨c0, c1, c2, c3⟩ := cell4 hbox3
    have HF3 : Hid (WordAt w.heap.size w3.drew Af cf F) := hF.on (below_drewN hbw3 1) (Nat.le_refl _)
    have HD3 : Hid (DataAt w.heap.size w3.drew Ad cd D wh) := hD.on (below_drewN hbw3 1) (Nat.le_refl _)
    have HL3 : Hid (LargeAt w.heap.size w3.drew AL ats _) := hL.on (below_drewN hbw3 1) (Nat.le_refl _)
    have HO3 : Hid (Own w2.heap.size w3.drew (.slice (some ⟨w2.heap.size, 0, none⟩) 0 (F.length + sz + extra)) []) := hown3.drew
    clear hown3 hbox2
    go_region_law (first
      | (refine step_append_word rfl (.tmp 55) (.tmp 56) rfl w2.heap.size w.heap.size (.slice (some ⟨w2.heap.size, 0, none⟩) 0 (F.length + sz + extra)) [] F rfl HO3.out Af F.length cf rfl rfl HF3.out (by simp; omega) hs3 ?_
         intro v4 w4 hown4 hgr4 hloc4 hb4 hcp4
         have hbox4 : w4.heap[w.heap.size]? = some (.cells #[.int .i64 n, .int .i64 wh, .slice Ad D.length cd, .slice AL _ cL] 33 (0, 0)) := (hb4.block _ hsb).trans hbox3
         obtain ⟨e0, e1, e2, e3⟩ := cell4 hbox4)
      | (go_simp
         go_at_call 13
         refine (appendTo_any w2.heap.size w.heap.size n wh Ad AL cd cL D ats _ v4 ([] ++ F) w4 hown4 (HD3.out.on hb4 (Nat.le_of_lt hsb)) (HL3.out.on hb4 (Nat.le_of_lt hsb)) (Nat.le_of_lt hsb) (Nat.le_trans hs3 hb4.size) hord (by rw [List.nil_append]; omega) hdl (by omega)).mono ?_
         rintro e w5 ⟨v5, rfl, hown5, hb5, hcp5⟩))
    all_goals
      go_wp2
      go_ret
      rw [List.nil_append] at hown5
      have hbA : Below w2.heap.size w2 w5 := (((Below.refl w2.heap.size w2).grown hgr3 (Nat.le_refl _) (fun q hq => by cases hq)).trans (below_drewN (Below.refl _ _) 1)).trans (hb4.trans hb5)
      obtain ⟨A5, C5, rfl, hl5, hm5, hw5⟩ := own_word hown5
      have hcc : F.length + sz + extra ≤ C5 := Nat.le_trans hcp4 hcp5
      refine ⟨_, rfl, ⟨A5, C5, rfl, ?_, hm5, hw5⟩, ⟨hbA.os.trans hbw2.os, hbA.tape.trans hbw2.tape, hbA.output.trans hbw2.output, Nat.le_trans hbw2.size hbA.size, fun k hk _ => (hbA.block k (by omega)).trans (hbw2.block k hk)⟩, fun g hg j _ => ?_, fun _ => hbw2.trans (hbA.mono hbw2.size)⟩
      · rw [List.length_append, HLF]
        have := HSZ.out
        omega
      · have hgl : g < w.heap.size := (World.ownsRow.lt hown g (by rw [hg]; rfl)).2
        exact block_cell ((hbA.block g (by omega)).trans (hbw2.block g hgl)) j

theorem splice_at {l cs : List Value} {off j : Nat} (hl : off + cs.length ≤ l.length) : (splice l off cs)[j]? = if j < off then l[j]? else if j < off + cs.length then cs[j - off]? else l[j]? := by
  have ht : (l.take off).length = off := by rw [List.length_take]; omega
  rw [splice]
  by_cases h1 : j < off
  · rw [if_pos h1, List.getElem?_append_left (by omega), List.getElem?_take_of_lt h1]
  · rw [if_neg h1, List.getElem?_append_right (by omega), ht]
    by_cases h2 : j < off + cs.length
    · rw [if_pos h2, List.getElem?_append_left (by omega)]
    · rw [if_neg h2, List.getElem?_append_right (by omega), List.getElem?_drop]
      congr 1
      omega

set_option maxHeartbeats 1600000 in
/-- The fast road: the frame is laid in front of the writes, in their own array. -/
theorem framed_fast (B : Nat) (n : Int) (wh : Nat) (AL Af : Option Addr) (gd cd cL cf extra : Nat) (D F : List UInt8) (w : World)
    (hown : Own B w (.slice (some ⟨gd, 0, none⟩) D.length cd) D) (hF : WordAt w.heap.size w Af cf F) (hwd : wh ≤ D.length) (hdl : D.length ≤ 1048576)
    (hfw : F.length ≤ wh) (hroom : extra ≤ cd - D.length) :
    Calls Try.prog 14 #[.agg #[.int .i64 n, .int .i64 wh, .slice (some ⟨gd, 0, none⟩) D.length cd, .slice AL 0 cL], .slice Af F.length cf, .int .i64 extra] w fun e w' => ∃ v, e = .returned v ∧ FramedAt w' v (F ++ seg D wh D.length) extra ∧ FramedLeaves w w' (some ⟨gd, 0, none⟩) wh 0 := by
  have hD := data_of_own 0 hown
  have hcd := hD.2.1
  have hcm := hD.2.2.1
  have hgl : gd < w.heap.size := (World.ownsRow.lt hown gd rfl).2
  obtain ⟨s, hs⟩ : ∃ s, s = wh - F.length := ⟨_, rfl⟩
  have hsi : (wh : Int) - (F.length : Int) = (s : Int) := by omega
  have hsd : s + F.length = wh := by omega
  obtain ⟨hcut, _⟩ := hD.rest s (Nat.zero_le _) (by omega)
  obtain ⟨cur, hcur, hcs, hct⟩ : ∃ cur, w.heap[gd]? = some (.cells cur 5 (0, 0)) ∧ cur.size = cd ∧ cur.toList.take D.length = Lib.byteCells D := by
    have h' := hown
    unfold Own at h'
    rcases h'.2 with ⟨hn, _⟩ | ⟨g, cap, cur, hv, _, hg, _, _, h1, h2⟩
    · cases hn
    · injection hv with e1 _ e2
      injection e1 with e1
      injection e1 with e1
      subst e1; subst e2
      exact ⟨cur, hg, by omega, by rw [Nat.mul_one] at h2; exact h2⟩
  have hroom' : (extra : Int) ≤ (cd : Int) - (D.length : Int) := by omega
  unfold maxLen at hcm
  have HOWN : Hid (Own B w (.slice (some ⟨gd, 0, none⟩) D.length cd) D) := hown
  have HCUR : Hid (w.heap[gd]? = some (.cells cur 5 (0, 0))) := hcur
  have HF : Hid (WordAt w.heap.size w Af cf F) := hF
  have HSD : Hid (s + F.length = wh) := hsd
  have hal : Hid (Below w.heap.size w (w.alloc (.cells #[.int .i64 n, .int .i64 wh, .slice (some ⟨gd, 0, none⟩) D.length cd, .slice AL 0 cL] 33 (0, 0)))) := (Below.refl _ _).alloc (Nat.le_refl _) _
  have hsrc : Hid (0 < (Lib.byteCells F).length → ∃ ad, Af = some ad) := fun h => by
    rw [Lib.byteCells_length] at h
    obtain ⟨_, b, off, h2, _⟩ := hF
    exact ⟨_, (h2 h).1⟩
  clear hs hown hcur hF hsd hroom
  go_enter Try.func14, Try.ntmps14
  go_wp2_with (first
    | (refine wpList_copy_at rfl (.tmp 39) (.tmp 40) 22 rfl 5 Try.underlying22 Try.size5 _ _ _ _ _ _ rfl rfl gd s cur 5 ((Below.heap_alloc _ _ _ hgl).trans HCUR.out) (Lib.byteCells F) ?_ ?_ ?_ (byte_one F) ?_
       · have := HSD.out
         rw [Lib.byteCells_length]
         exact (Nat.min_eq_left (by omega)).symm
       · intro hp
         obtain ⟨ad, hAf⟩ := hsrc.out hp
         rw [Lib.byteCells_length] at hp
         have := HSD.out
         refine ⟨?_, ad, hAf, word_src (HF.out.on hal.out (Nat.le_refl _)) hAf⟩
         unfold cutAt
         rw [if_neg (by omega)]
         simp [Addr.add]
         exact fun e => e.symm
       · have := HSD.out
         rw [Lib.byteCells_length]
         omega
       intro w2 hg2 hgr2
       have hbox2 : w2.heap[w.heap.size]? = some (.cells #[.int .i64 n, .int .i64 wh, .slice (some ⟨gd, 0, none⟩) D.length cd, .slice AL 0 cL] 33 (0, 0)) := (hgr2.block _ (by simp) (by simp; omega)).trans (heap_alloc_new w _)
       obtain ⟨e0, e1, e2, e3⟩ := cell4 hbox2))
  go_ret
  have hsd := HSD.out
  have hs2 := hgr2.size
  simp at hs2
  have hfl : (Lib.byteCells F).length = F.length := Lib.byteCells_length F
  have hcl : cur.toList.length = cd := by rw [Array.length_toList]; exact hcs
  have hRl : (F ++ seg D wh D.length).length = D.length - s := by rw [List.length_append, seg_len _ _ _ (Nat.le_refl _)]; omega
  have hgen : ∀ j, w2.cell? ⟨gd, j, none⟩ = (splice cur.toList s (Lib.byteCells F))[j]? := fun j => by
    rw [Lib.cell_of_heap hg2.out]; simp
  have hcD : ∀ j, j < D.length → cur.toList[j]? = some (.int .u8 ((D.getD j 0).toNat : Int)) := fun j hj => by
    have h1 : (cur.toList.take D.length)[j]? = cur.toList[j]? := List.getElem?_take_of_lt hj
    rw [← h1, hct, Lib.byteCells, List.getElem?_map, List.getElem?_eq_getElem hj, List.getD, List.getElem?_eq_getElem hj]
    rfl
  refine ⟨_, rfl, ⟨cutAt (some ⟨gd, 0, none⟩) cd s, cd - s, by rw [hRl]; rfl, by omega, by unfold maxLen; omega, ?_, gd, s, fun hp => ?_, fun j hj => ?_⟩, ⟨hgr2.os, hgr2.tape, hgr2.output, by omega, fun k hk hne => ?_⟩, fun g hg j hj => ?_, fun h => absurd h (Nat.lt_irrefl _)⟩
  · intro e
    unfold cutAt at e
    split at e
    · cases e
    · cases e
  · refine ⟨?_, by omega⟩
    unfold cutAt
    rw [if_neg (by omega)]
    simp [Addr.add]
    exact fun e => e.symm
  · rw [hgen, splice_at (by omega), if_neg (by omega), hfl]
    by_cases hjf : j < F.length
    · rw [if_pos (by omega), show s + j - s = j by omega, Lib.byteCells, List.getElem?_map, List.getElem?_eq_getElem hjf, List.getD, List.getElem?_append_left hjf, List.getElem?_eq_getElem hjf]
      rfl
    · rw [if_neg (by omega), hcD _ (by omega)]
      have : (F ++ seg D wh D.length).getD j 0 = D.getD (s + j) 0 := by
        rw [List.getD, List.getElem?_append_right (by omega), ← List.getD, seg_getD _ _ _ _ (by omega)]
        congr 1
        omega
      rw [this]
  · rw [hgr2.block k (by simp; omega) (by simpa using hne)]
    exact Below.heap_alloc _ _ _ hk
  · injection hg with hg
    injection hg with hg
    subst hg
    rw [hgen, Lib.cell_of_heap HCUR.out, splice_at (by omega), if_neg (by omega), hfl, if_neg (by omega)]
    simp

theorem logForm_nil (D : List UInt8) (wh : Nat) (ats : List Nat) : logForm D wh ats [] = seg D wh D.length := by
  simp [logForm, logTo, fr]

set_option maxHeartbeats 1600000 in
/-- The fast road where the writes hold nothing at all. -/
theorem framed_none (n : Int) (AL Af : Option Addr) (cL cf : Nat) (w : World) (hF : WordAt w.heap.size w Af cf []) :
    Calls Try.prog 14 #[.agg #[.int .i64 n, .int .i64 0, .slice none 0 0, .slice AL 0 cL], .slice Af 0 cf, .int .i64 0] w fun e w' => ∃ v, e = .returned v ∧ FramedAt w' v [] 0 ∧ FramedLeaves w w' none 0 0 := by
  have HF : Hid (WordAt w.heap.size w Af cf []) := hF
  clear hF
  go_enter Try.func14, Try.ntmps14
  go_wp2_with (first
    | (refine wpList_copy_nothing rfl (.tmp 39) (.tmp 40) 22 22 rfl 5 Try.underlying22 Try.size5 _ _ _ _ _ _ rfl rfl rfl ?_))
  go_ret
  refine ⟨_, rfl, ⟨none, 0, rfl, Nat.le_refl _, Nat.zero_le _, fun _ => ⟨rfl, rfl⟩, 0, 0, fun h => absurd h (by simp), fun j hj => absurd hj (by simp)⟩, World.grownBy_alloc w _ none, fun g hg => by (cases hg), fun h => absurd h (Nat.lt_irrefl _)⟩

theorem framed_any (B : Nat) (n : Int) (wh : Nat) (Ad AL Af : Option Addr) (cd cL cf extra : Nat) (D F : List UInt8) (ats : List Nat) (Ls : List (List UInt8)) (w : World)
    (hown : Own B w (.slice Ad D.length cd) D) (hL : LargeAt w.heap.size w AL ats Ls) (hF : WordAt w.heap.size w Af cf F) (hord : InOrder D wh ats Ls.length) (hfl : F.length ≤ 1048576) (hdl : D.length ≤ 1048576) (hsum : Ls.length + sumW Ls Ls.length ≤ 1048576) (hex : extra ≤ 65536) :
    Calls Try.prog 14 #[.agg #[.int .i64 n, .int .i64 wh, .slice Ad D.length cd, .slice AL Ls.length cL], .slice Af F.length cf, .int .i64 extra] w fun e w' => ∃ v, e = .returned v ∧ FramedAt w' v (F ++ logForm D wh ats Ls) extra ∧ FramedLeaves w w' Ad wh Ls.length := by
  by_cases h : F.length ≤ wh ∧ Ls.length = 0 ∧ extra ≤ cd - D.length
  · obtain ⟨h1, h2, h3⟩ := h
    obtain rfl : Ls = [] := List.eq_nil_of_length_eq_zero h2
    rw [logForm_nil]
    have hwd := hord.1
    have h' := hown
    unfold Own at h'
    rcases h'.2 with ⟨hn, h0⟩ | ⟨g, cap, cur, hv, _⟩
    · injection hn with e1 _ e2
      subst e1; subst e2
      obtain rfl : D = [] := List.eq_nil_of_length_eq_zero h0
      obtain rfl : wh = 0 := by simpa using hwd
      obtain rfl : F = [] := List.eq_nil_of_length_eq_zero (by omega)
      obtain rfl : extra = 0 := by omega
      exact framed_none n AL Af cL cf w hF
    · injection hv with e1 _ e2
      subst e1
      exact framed_fast B n wh AL Af g cd cL cf extra D F w hown hF hwd hdl h1 h3
  · exact framed_slow B n wh Ad AL Af cd cL cf extra D F ats Ls w hown hL hF hord hfl hdl hsum hex (fun h1 h2 h3 => h ⟨h1, h2, h3⟩)

end Go.Proofs.Qxb6629377a
