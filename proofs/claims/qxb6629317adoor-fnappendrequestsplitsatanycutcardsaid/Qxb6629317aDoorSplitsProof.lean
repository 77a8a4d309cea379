/-
  DERIVED. Seat b6629317aD: the row and the tied card of 'FnAppendRequestSplitsAtAnyCut', proved.
-/
import Derived.Test.Qxb6629317aDoorKeepsProof
import Derived.Test.Qxb6629317aDoorSplitsOut
namespace Go.Proofs.Qxb6629317aDoor
open Go.ChangeShapes Go.WideShapes Go.ChangeAt Go.RowKit

set_option maxRecDepth 100000 in
theorem splits_lifted (os : Os) (started : os.Started) (H : Type) (enc : TypeId × Value → H) :
    ReturnsInHanded {} Tryd.checked os 4 .any (fun w args => (Rows.fnAppendRequestSplitsAtAnyCutSpec.pre enc Tryd.prog Tryd.f4 [] false w args ∧ laidMetH Tryd.prog Rows.fnAppendRequestSplitsAtAnyCutRow.laid w) ∧ sizedMet enc Tryd.prog Tryd.f4 (OpenSpec.ofChange Rows.fnAppendRequestSplitsAtAnyCutSpec) false w args)
      (Rows.fnAppendRequestSplitsAtAnyCutSpec.post enc Tryd.prog Tryd.f4 false true false false) := by
  refine returnsInHanded_of_change_and (C := Tryd.checked) (X := fun w _ => laidMetH Tryd.prog Rows.fnAppendRequestSplitsAtAnyCutRow.laid w) (fun _ _ _ hh h => h.of_heap hh) Tryd.own started (by kernel_rfl) Tryd.func4
    (ChangeSpec.witness_shaped (enc := enc) (C := Tryd.checked) (os := os) (X := fun w _ => laidMetH Tryd.prog Rows.fnAppendRequestSplitsAtAnyCutRow.laid w) false (World.doorLaid Tryd.prog 24 os) #[.slice none 0 0, .int .i64 0] 8 rfl (World.shaped_of_RefB (by kernel_rfl) (by kernel_rfl)) (by kernel_rfl) (by kernel_rfl) (by kernel_rfl) (door_met os _)) ?_
  intro W base args ds gs before hval0 hW _ hsz0 hL _
  have hsz : (DataW.weightsEach Tryd.prog (Tryd.f4.params.toList ++ Rows.fnAppendRequestSplitsAtAnyCutSpec.plain.varTypes Tryd.prog) (ds ++ gs)).all (· ≤ reachBytes) = true := hsz0
  clear hsz0
  have hval : ∀ (j : Nat) t v, Tryd.f4.params[j]? = some t → args[j]? = some v → Value.okWide Tryd.prog W .any base t v := hval0
  have hW' := hW
  obtain ⟨p, q, hA0, hV, rfl, _, _⟩ := hW
  have hA : DataW.TrodAll enc Tryd.prog W 0 (fun _ => true) true Tryd.f4.params.toList args.toList ds p := hA0
  rw [Tryd.params4] at hA hval hsz
  obtain ⟨v0, v1, d0, d1, p0, p1, rfl, rfl, hp, h0, h1⟩ := trodAll_two hA
  obtain ⟨rfl, rfl⟩ := trodVars_none hV
  obtain ⟨A1, len1, cap1, rfl⟩ := okWide_slice Tryd.underlying23 (hval 0 23 v0 rfl rfl)
  obtain ⟨z, rfl, rfl, rfl, hzwf⟩ := open_int Tryd.underlying3 (hval 1 3 v1 rfl rfl) h1
  have h0k := h0
  have h1k := h1
  obtain ⟨fuel1, hf1⟩ := h0
  clear hA0 hval0
  simp only [List.append_nil] at hW'
  have hlt : ∀ x ∈ p, x.block < W.heap.size := fun x hx => by simpa using hW'.lt x hx
  have hlt0 : ∀ x ∈ p0, x.block < W.heap.size := fun x hx => hlt x (by rw [hp]; exact List.mem_append_left _ hx)
  have fin : ∀ (W' : World), Below W.heap.size W W' →
      Rows.fnAppendRequestSplitsAtAnyCutSpec.post enc Tryd.checked.prog Tryd.f4 false true false false W #[.slice A1 len1 cap1, .int .i64 z] (.bool true) W' := by
    intro W' hnx
    refine ⟨_, _, _, [], p, [], hW', ?_, ?_, rfl, hnx.frame _, fun h => by cases h⟩
    · exact trodAll_mk1 (shut_bool Tryd.underlying4 true)
    · rw [hp]
      exact trodAll_mk2 (Below.trod Tryd.laidOut (by kernel_rfl) (of_decide_eq_true (by kernel_rfl)) h0k hnx hlt0) (Below.trod Tryd.laidOut (by kernel_rfl) (of_decide_eq_true (by kernel_rfl)) h1k hnx (fun x hx => by cases hx))
  have htab := tab_of_laid (W := W) hL
  -- the two arguments, as the walk asks them
  obtain ⟨Ws, hl1, hw1, hb1, hc1, hc2⟩ : ∃ Ws : List (List UInt8), Ws.length = len1 ∧ WordsAt W.heap.size W A1 Ws ∧ Ws.length ≤ 140737488355328 ∧ Ws.length ≤ cap1 ∧ cap1 ≤ 9223372036854775807 := by
    rcases Deep.open_int_rows Tryd.underlying23 Tryd.underlying22 Tryd.underlying5 Tryd.cells22 Tryd.cells5 hf1 with ⟨hcs, hx⟩ | ⟨a, len', cap', A, L, C, Z, hcs, _, hl, hm, hx, hrow⟩
    · simp [Value.cells] at hcs
      obtain ⟨rfl, rfl, rfl⟩ := hcs
      exact ⟨[], rfl, ⟨0, 0, fun h => absurd h (by simp), fun r hr => absurd hr (by simp)⟩, by simp, by simp, by simp⟩
    · simp [Value.cells] at hcs
      obtain ⟨rfl, rfl, rfl⟩ := hcs
      simp only [Prod.mk.injEq] at hx
      obtain ⟨rfl, rfl⟩ := hx
      have hreach := sized_slice hsz (j := 0) (t := 23) (e := 22) rfl rfl Tryd.underlying23
      rw [Tryd.bytes22] at hreach
      simp only [List.length_map, List.length_range, reachBytes] at hreach
      have e1 := wordsOf_len len1 L Z
      refine ⟨wordsOf len1 L Z, e1, wordsAt_of hl (fun h => hlt0 (.cell a.block a.off) (List.mem_append_left _ (MemPlace.mem_row.2 ⟨0, h, by simp⟩))) hrow (fun r hr a' hA' hz => ?_), by rw [e1]; omega, by rw [e1]; exact hl, by unfold maxLen at hm; omega⟩
      refine hlt0 (.cell a'.block a'.off) (List.mem_append_right _ (List.mem_flatMap.2 ⟨r, List.mem_range.2 hr, ?_⟩))
      rw [hA']
      exact MemPlace.mem_row.2 ⟨0, hz, by simp⟩
  subst hl1
  refine (splits_any A1 cap1 Ws z W hb1 hc1 hc2 hw1 htab).mono fun e W' ⟨he, hnx⟩ => ?_
  subst he
  exact ⟨_, rfl, fin _ hnx⟩

/-- The row. -/
theorem splits_row : Rows.FnAppendRequestSplitsAtAnyCutSaid :=
  OpenClaim.holds_of_wide 4 Tryd.f4 rfl rfl rfl rfl rfl rfl rfl ⟨rfl, rfl, rfl, rfl, rfl⟩ rfl rfl rfl rfl rfl (by kernel_rfl) Tryd.func4 (by kernel_rfl)
    (of_decide_eq_true (by kernel_rfl)) (by unfold Func.isWrapper; first | (rw [if_pos (by decide +kernel)]; kernel_rfl) | (rw [if_neg (by decide +kernel)]; exact ⟨rfl, rfl⟩))
    (fun os started H enc _ => splits_lifted os started H enc)

/-- The tied card. -/
theorem splits_card : Rows.FnAppendRequestSplitsAtAnyCutCardSaid :=
  Claim7.holds_tied_plain_at .later [] [.data, .data, .data] true Rows.fnAppendRequestSplitsAtAnyCutCard.stood.harness false
    splits_row (fun _ h => by cases h) (by kernel_rfl) (fun _ h => by cases h) fnAppendRequestSplitsAtAnyCut_row_tie rfl ⟨rfl, rfl⟩ (by kernel_rfl) rfl
    (fun f fn hf hfn => by
      obtain rfl : f = 4 := Option.some.inj ((show Tryd.prog.funcNamed Rows.fnAppendRequestSplitsAtAnyCutRow.func = some 4 by kernel_rfl).symm.trans hf) |>.symm
      obtain rfl : fn = Tryd.f4 := (Option.some.inj (Tryd.func4.symm.trans hfn)).symm
      exact ⟨by kernel_rfl, fun j t ht => by
        rw [Tryd.params4] at ht
        have hm : t ∈ [23, 3] := by simpa using Array.mem_of_getElem? ht
        have hall : ([23, 3].all fun u => !Tryd.prog.wantsStandIn u) = true := by kernel_rfl
        exact (show Tryd.prog.wantsStandIn t = false by simpa using List.all_eq_true.1 hall t hm)⟩)
    (by kernel_rfl)

end Go.Proofs.Qxb6629317aDoor
