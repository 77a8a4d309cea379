/-
  DERIVED. Seat b6629317aD: the row and the tied card of 'FnAppendRequestKeepsDstAndDecodes', proved.
-/
import Derived.Test.Qxb6629317aDoorKeeps
import Derived.Test.Qxb6629317aDoorOpen
import Derived.Test.Qxb6629317aDoorTie
import Derived.Test.Qxb6629317aDoorCards
import Derived.LaidMore
import Derived.Stop.Joined
import Derived.Stop.LaidErr
import Derived.SevenTiedAt
namespace Go.Proofs.Qxb6629317aDoor
open Go.ChangeShapes Go.WideShapes Go.ChangeAt Go.RowKit

theorem Tryd.own : ownKnob Tryd.prog.godebug = none := by kernel_rfl
theorem Tryd.laidOut : laidOutB Tryd.prog = true := by kernel_rfl
theorem Tryd.cells5 : Tryd.prog.cellsOf 5 = 1 := by kernel_rfl
theorem Tryd.cells22 : Tryd.prog.cellsOf 22 = 1 := by kernel_rfl
theorem Tryd.cells37 : Tryd.prog.cellsOf 37 = 1 := by kernel_rfl
theorem Tryd.cells46 : Tryd.prog.cellsOf 46 = 20 := by kernel_rfl
theorem Tryd.bytes5 : Tryd.prog.bytesOf 5 = 1 := by kernel_rfl
theorem Tryd.bytes22 : Tryd.prog.bytesOf 22 = 24 := by kernel_rfl
theorem gTab : Tryd.prog.globalNamed tabName = some 0 := by kernel_rfl
theorem tTab : (Tryd.prog.globals[0]?).map (·.type) = some 46 := by kernel_rfl

/-- The door's own heap meets the condition. -/
theorem door_met (os : Os) (args : Array Value) : laidMetH Tryd.prog Rows.fnAppendRequestKeepsDstAndDecodesRow.laid ((World.doorLaid Tryd.prog 24 os).forCall (fun _ _ => 0) ⟨#[], args, []⟩).memory :=
  laidMetH_of_parts3 (fuel := 8) (laidMet_of_run' 8 (by kernel_rfl) (by kernel_rfl)) (by kernel_rfl) (by kernel_rfl)

/-- What the condition gives the walks: the table. -/
theorem tab_of_laid {W : World} (h : laidMetH Tryd.prog Rows.fnAppendRequestKeepsDstAndDecodesRow.laid W) : Tab W.heap.size W := by
  rw [MakeChecks.laidMetH_plain _ _ _ (by kernel_rfl)] at h
  have h2 : laidMet Tryd.prog ((tabName, Lib.tabData .u64 Lib.pow10Tab) :: []) W := laidMet.tail (laidMet.tail h)
  exact Lib.tabBelow_of_tabIs (Lib.tabIs_of_head gTab tTab Tryd.underlying46 Tryd.underlying37 Tryd.cells37 Tryd.cells46 h2)

set_option maxRecDepth 100000 in
theorem keeps_lifted (os : Os) (started : os.Started) (H : Type) (enc : TypeId × Value → H) :
    ReturnsInHanded {} Tryd.checked os 3 .any (fun w args => (Rows.fnAppendRequestKeepsDstAndDecodesSpec.pre enc Tryd.prog Tryd.f3 [] false w args ∧ laidMetH Tryd.prog Rows.fnAppendRequestKeepsDstAndDecodesRow.laid w) ∧ sizedMet enc Tryd.prog Tryd.f3 (OpenSpec.ofChange Rows.fnAppendRequestKeepsDstAndDecodesSpec) false w args)
      (Rows.fnAppendRequestKeepsDstAndDecodesSpec.post enc Tryd.prog Tryd.f3 false true false false) := by
  refine returnsInHanded_of_change_and (C := Tryd.checked) (X := fun w _ => laidMetH Tryd.prog Rows.fnAppendRequestKeepsDstAndDecodesRow.laid w) (fun _ _ _ hh h => h.of_heap hh) Tryd.own started (by kernel_rfl) Tryd.func3
    (ChangeSpec.witness_shaped (enc := enc) (C := Tryd.checked) (os := os) (X := fun w _ => laidMetH Tryd.prog Rows.fnAppendRequestKeepsDstAndDecodesRow.laid w) false (World.doorLaid Tryd.prog 24 os) #[.slice none 0 0, .slice none 0 0] 8 rfl (World.shaped_of_RefB (by kernel_rfl) (by kernel_rfl)) (by kernel_rfl) (by kernel_rfl) (by kernel_rfl) (door_met os _)) ?_
  intro W base args ds gs before hval0 hW _ hsz0 hL _
  have hsz : (DataW.weightsEach Tryd.prog (Tryd.f3.params.toList ++ Rows.fnAppendRequestKeepsDstAndDecodesSpec.plain.varTypes Tryd.prog) (ds ++ gs)).all (· ≤ reachBytes) = true := hsz0
  clear hsz0
  have hval : ∀ (j : Nat) t v, Tryd.f3.params[j]? = some t → args[j]? = some v → Value.okWide Tryd.prog W .any base t v := hval0
  have hW' := hW
  obtain ⟨p, q, hA0, hV, rfl, _, _⟩ := hW
  have hA : DataW.TrodAll enc Tryd.prog W 0 (fun _ => true) true Tryd.f3.params.toList args.toList ds p := hA0
  rw [Tryd.params3] at hA hval hsz
  obtain ⟨v0, v1, d0, d1, p0, p1, rfl, rfl, hp, h0, h1⟩ := trodAll_two hA
  obtain ⟨rfl, rfl⟩ := trodVars_none hV
  obtain ⟨A0, len0, cap0, rfl⟩ := okWide_slice Tryd.underlying22 (hval 0 22 v0 rfl rfl)
  obtain ⟨A1, len1, cap1, rfl⟩ := okWide_slice Tryd.underlying23 (hval 1 23 v1 rfl rfl)
  have h0k := h0
  have h1k := h1
  obtain ⟨fuel0, hf0⟩ := h0
  obtain ⟨fuel1, hf1⟩ := h1
  clear hA0 hval0
  simp only [List.append_nil] at hW'
  have hlt : ∀ x ∈ p, x.block < W.heap.size := fun x hx => by simpa using hW'.lt x hx
  have hlt0 : ∀ x ∈ p0, x.block < W.heap.size := fun x hx => hlt x (by rw [hp]; exact List.mem_append_left _ hx)
  have hlt1 : ∀ x ∈ p1, x.block < W.heap.size := fun x hx => hlt x (by rw [hp]; exact List.mem_append_right _ hx)
  have fin : ∀ (W' : World), Below W.heap.size W W' →
      Rows.fnAppendRequestKeepsDstAndDecodesSpec.post enc Tryd.checked.prog Tryd.f3 false true false false W #[.slice A0 len0 cap0, .slice A1 len1 cap1] (.bool true) W' := by
    intro W' hnx
    refine ⟨_, _, _, [], p, [], hW', ?_, ?_, rfl, hnx.frame _, fun h => by cases h⟩
    · exact trodAll_mk1 (shut_bool Tryd.underlying4 true)
    · rw [hp]
      exact trodAll_mk2 (Below.trod Tryd.laidOut (by kernel_rfl) (of_decide_eq_true (by kernel_rfl)) h0k hnx hlt0) (Below.trod Tryd.laidOut (by kernel_rfl) (of_decide_eq_true (by kernel_rfl)) h1k hnx hlt1)
  have htab := tab_of_laid hL
  -- the two arguments, as the walk asks them
  obtain ⟨l, hl0, hw0, hb0⟩ : ∃ l : List UInt8, l.length = len0 ∧ WordAt W.heap.size W A0 cap0 l ∧ l.length ≤ 140737488355328 := by
    rcases open_ints Tryd.underlying22 Tryd.underlying5 Tryd.cells5 hf0 with ⟨hcs, hx⟩ | ⟨a, len', cap', zs, hcs, _, hl, hm, hz, hx, hcell, hwz⟩
    · simp [Value.cells] at hcs
      obtain ⟨rfl, rfl, rfl⟩ := hcs
      exact ⟨[], rfl, wordAt_nil, by simp⟩
    · simp [Value.cells] at hcs
      obtain ⟨rfl, rfl, rfl⟩ := hcs
      simp only [Prod.mk.injEq] at hx
      obtain ⟨rfl, rfl⟩ := hx
      simp only [if_true] at hz
      have hreach := sized_slice hsz (j := 0) (t := 22) (e := 5) rfl rfl Tryd.underlying22
      rw [Tryd.bytes5] at hreach
      simp only [lits, List.length_map, List.length_take, List.length_drop, reachBytes] at hreach
      have e1 : (bytesOf (zs.take len0)).length = len0 := by rw [bytesOf_len, List.length_take]; omega
      exact ⟨bytesOf (zs.take len0), e1, wordAt_of (by omega) hcell hwz (fun h => hlt0 (.cell a.block a.off) (MemPlace.mem_row.2 ⟨0, h, by simp⟩)), by rw [e1]; omega⟩
  obtain ⟨Ws, hl1, hw1, hb1⟩ : ∃ Ws : List (List UInt8), Ws.length = len1 ∧ WordsAt W.heap.size W A1 Ws ∧ Ws.length ≤ 140737488355328 := by
    rcases Deep.open_int_rows Tryd.underlying23 Tryd.underlying22 Tryd.underlying5 Tryd.cells22 Tryd.cells5 hf1 with ⟨hcs, hx⟩ | ⟨a, len', cap', A, L, C, Z, hcs, _, hl, hm, hx, hrow⟩
    · simp [Value.cells] at hcs
      obtain ⟨rfl, rfl, rfl⟩ := hcs
      exact ⟨[], rfl, ⟨0, 0, fun h => absurd h (by simp), fun r hr => absurd hr (by simp)⟩, by simp⟩
    · simp [Value.cells] at hcs
      obtain ⟨rfl, rfl, rfl⟩ := hcs
      simp only [Prod.mk.injEq] at hx
      obtain ⟨rfl, rfl⟩ := hx
      have hreach := sized_slice hsz (j := 1) (t := 23) (e := 22) rfl rfl Tryd.underlying23
      rw [Tryd.bytes22] at hreach
      simp only [List.length_map, List.length_range, reachBytes] at hreach
      have e1 := wordsOf_len len1 L Z
      refine ⟨wordsOf len1 L Z, e1, wordsAt_of hl (fun h => hlt1 (.cell a.block a.off) (List.mem_append_left _ (MemPlace.mem_row.2 ⟨0, h, by simp⟩))) hrow (fun r hr a' hA' hz => ?_), by rw [e1]; omega⟩
      refine hlt1 (.cell a'.block a'.off) (List.mem_append_right _ (List.mem_flatMap.2 ⟨r, List.mem_range.2 hr, ?_⟩))
      rw [hA']
      exact MemPlace.mem_row.2 ⟨0, hz, by simp⟩
  subst hl0
  subst hl1
  refine (keeps_any A0 cap0 l A1 cap1 Ws W hb0 hb1 hw0 hw1 htab).mono fun e W' ⟨he, hnx⟩ => ?_
  subst he
  exact ⟨_, rfl, fin _ hnx⟩

/-- The row. -/
theorem keeps_row : Rows.FnAppendRequestKeepsDstAndDecodesSaid :=
  OpenClaim.holds_of_wide 3 Tryd.f3 rfl rfl rfl rfl rfl rfl rfl ⟨rfl, rfl, rfl, rfl, rfl⟩ rfl rfl rfl rfl rfl (by kernel_rfl) Tryd.func3 (by kernel_rfl)
    (of_decide_eq_true (by kernel_rfl)) (by unfold Func.isWrapper; first | (rw [if_pos (by decide +kernel)]; kernel_rfl) | (rw [if_neg (by decide +kernel)]; exact ⟨rfl, rfl⟩))
    (fun os started H enc _ => keeps_lifted os started H enc)

/-- The tied card. -/
theorem keeps_card : Rows.FnAppendRequestKeepsDstAndDecodesCardSaid :=
  Claim7.holds_tied_plain_at .later [] [.data, .data, .data] true Rows.fnAppendRequestKeepsDstAndDecodesCard.stood.harness false
    keeps_row (fun _ h => by cases h) (by kernel_rfl) (fun _ h => by cases h) fnAppendRequestKeepsDstAndDecodes_row_tie rfl ⟨rfl, rfl⟩ (by kernel_rfl) rfl
    (fun f fn hf hfn => by
      obtain rfl : f = 3 := Option.some.inj ((show Tryd.prog.funcNamed Rows.fnAppendRequestKeepsDstAndDecodesRow.func = some 3 by kernel_rfl).symm.trans hf) |>.symm
      obtain rfl : fn = Tryd.f3 := (Option.some.inj (Tryd.func3.symm.trans hfn)).symm
      exact ⟨by kernel_rfl, fun j t ht => by
        rw [Tryd.params3] at ht
        have hm : t ∈ [22, 23] := by simpa using Array.mem_of_getElem? ht
        have hall : ([22, 23].all fun u => !Tryd.prog.wantsStandIn u) = true := by kernel_rfl
        exact (show Tryd.prog.wantsStandIn t = false by simpa using List.all_eq_true.1 hall t hm)⟩)
    (by kernel_rfl)

end Go.Proofs.Qxb6629317aDoor
