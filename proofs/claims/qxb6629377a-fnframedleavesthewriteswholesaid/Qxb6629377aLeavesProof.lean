/-
  DERIVED. Seat b6629377a: 'Rows.FnFramedLeavesTheWritesWholeSaid', proved.
-/
import Derived.Test.Qxb6629377aLeaves
import Derived.Test.Qxb6629377aOpen
namespace Go.Proofs.Qxb6629377a
open Go.ChangeShapes Go.WideShapes Go.ChangeAt Go.RowKit

set_option maxHeartbeats 1600000 in
set_option maxRecDepth 100000 in
theorem leaves_lifted (os : Os) (started : os.Started) (H : Type) (enc : TypeId × Value → H) :
    ReturnsInHanded {} Try.checked os 4 .any (Rows.fnFramedLeavesTheWritesWholeSpec.pre6 enc Try.prog Try.f4 Rows.fnFramedLeavesTheWritesWholeRow.domain false) (Rows.fnFramedLeavesTheWritesWholeSpec.post enc Try.prog Try.f4 false true false false) := by
  refine returnsInHanded_of_change_sized (C := Try.checked) Try.own started (by kernel_rfl) Try.func4
    (ChangeSpec.witness6 (enc := enc) (C := Try.checked) false ⟨#[], #[.int .i64 0, .int .i64 0, .slice none 0 0, .int .i64 0, .slice none 0 0, .slice none 0 0, .slice none 0 0, .int .i64 0], []⟩ 8 (by kernel_rfl) (by kernel_rfl) (by kernel_rfl) (by kernel_rfl)) ?_
  intro W base args ds gs before hval0 hW _ hsz0 _
  have hsz : (DataW.weightsEach Try.prog (Try.f4.params.toList ++ Rows.fnFramedLeavesTheWritesWholeSpec.plain.varTypes Try.prog) (ds ++ gs)).all (· ≤ reachBytes) = true := hsz0
  clear hsz0
  have hval : ∀ (j : Nat) t v, Try.f4.params[j]? = some t → args[j]? = some v → Value.okWide Try.prog W .any base t v := hval0
  have hW' := hW
  obtain ⟨p, q, hA0, hV, rfl, _, _⟩ := hW
  have hA : DataW.TrodAll enc Try.prog W 0 (fun _ => true) true Try.f4.params.toList args.toList ds p := hA0
  rw [Try.params4] at hA hval hsz
  obtain ⟨v0, vs0, d0, ds0, p0, q0, hargs, rfl, hp0, h0, r0⟩ := trodAll_cons hA
  obtain ⟨v1, vs1, d1, ds1, p1, q1, rfl, rfl, hp1, h1, r1⟩ := trodAll_cons r0
  obtain ⟨v2, vs2, d2, ds2, p2, q2, rfl, rfl, hp2, h2, r2⟩ := trodAll_cons r1
  obtain ⟨v3, vs3, d3, ds3, p3, q3, rfl, rfl, hp3, h3, r3⟩ := trodAll_cons r2
  obtain ⟨v4, vs4, d4, ds4, p4, q4, rfl, rfl, hp4, h4, r4⟩ := trodAll_cons r3
  obtain ⟨v5, vs5, d5, ds5, p5, q5, rfl, rfl, hp5, h5, r5⟩ := trodAll_cons r4
  obtain ⟨v6, vs6, d6, ds6, p6, q6, rfl, rfl, hp6, h6, r6⟩ := trodAll_cons r5
  obtain ⟨v7, vs7, d7, ds7, p7, q7, rfl, rfl, hp7, h7, r7⟩ := trodAll_cons r6
  obtain ⟨rfl, rfl, rfl⟩ := trodAll_nil r7
  obtain rfl : args = #[v0, v1, v2, v3, v4, v5, v6, v7] := by cases args; simp_all
  obtain ⟨rfl, rfl⟩ := trodVars_none hV
  obtain ⟨z0, rfl, rfl, rfl, w0⟩ := open_int Try.underlying3 (hval 0 3 v0 rfl rfl) h0
  obtain ⟨z1, rfl, rfl, rfl, w1⟩ := open_int Try.underlying3 (hval 1 3 v1 rfl rfl) h1
  obtain ⟨A2, len2, cap2, rfl⟩ := okWide_slice Try.underlying22 (hval 2 22 v2 rfl rfl)
  obtain ⟨z3, rfl, rfl, rfl, w3⟩ := open_int Try.underlying3 (hval 3 3 v3 rfl rfl) h3
  obtain ⟨A4, len4, cap4, rfl⟩ := okWide_slice Try.underlying23 (hval 4 23 v4 rfl rfl)
  obtain ⟨A5, len5, cap5, rfl⟩ := okWide_slice Try.underlying24 (hval 5 24 v5 rfl rfl)
  obtain ⟨A6, len6, cap6, rfl⟩ := okWide_slice Try.underlying22 (hval 6 22 v6 rfl rfl)
  obtain ⟨z7, rfl, rfl, rfl, w7⟩ := open_int Try.underlying3 (hval 7 3 v7 rfl rfl) h7
  have h2k := h2
  have h4k := h4
  have h5k := h5
  have h6k := h6
  obtain ⟨fuel2, hf2⟩ := h2
  obtain ⟨fuel4, hf4⟩ := h4
  obtain ⟨fuel5, hf5⟩ := h5
  obtain ⟨fuel6, hf6⟩ := h6
  clear hA0 hval0
  simp only [List.append_nil] at hW'
  have hpp : p = [] ++ ([] ++ (p2 ++ ([] ++ (p4 ++ (p5 ++ (p6 ++ ([] ++ []))))))) := by rw [hp0, hp1, hp2, hp3, hp4, hp5, hp6, hp7]
  have hlt : ∀ x ∈ p, x.block < W.heap.size := fun x hx => by simpa using hW'.lt x hx
  have hlt2 : ∀ x ∈ p2, x.block < W.heap.size := fun x hx => hlt x (by rw [hpp]; simp [hx])
  have hlt4 : ∀ x ∈ p4, x.block < W.heap.size := fun x hx => hlt x (by rw [hpp]; simp [hx])
  have hlt5 : ∀ x ∈ p5, x.block < W.heap.size := fun x hx => hlt x (by rw [hpp]; simp [hx])
  have hlt6 : ∀ x ∈ p6, x.block < W.heap.size := fun x hx => hlt x (by rw [hpp]; simp [hx])
  have fin : ∀ (W' : World), Below W.heap.size W W' →
      Rows.fnFramedLeavesTheWritesWholeSpec.post enc Try.checked.prog Try.f4 false true false false W #[.int .i64 z0, .int .i64 z1, .slice A2 len2 cap2, .int .i64 z3, .slice A4 len4 cap4, .slice A5 len5 cap5, .slice A6 len6 cap6, .int .i64 z7] (.bool true) W' := by
    intro W' hnx
    refine ⟨_, _, _, [], p, [], hW', ?_, ?_, rfl, hnx.frame _, fun h => by cases h⟩
    · exact trodAll_mk1 (shut_bool Try.underlying4 true)
    · rw [hpp]
      exact trodAll_cons_mk (shut_int Try.underlying3 w0) (trodAll_cons_mk (shut_int Try.underlying3 w1) (trodAll_cons_mk (Below.trod Try.laidOut (by kernel_rfl) (of_decide_eq_true (by kernel_rfl)) h2k hnx hlt2) (trodAll_cons_mk (shut_int Try.underlying3 w3) (trodAll_cons_mk (Below.trod Try.laidOut (by kernel_rfl) (of_decide_eq_true (by kernel_rfl)) h4k hnx hlt4) (trodAll_cons_mk (Below.trod Try.laidOut (by kernel_rfl) (of_decide_eq_true (by kernel_rfl)) h5k hnx hlt5) (trodAll_cons_mk (Below.trod Try.laidOut (by kernel_rfl) (of_decide_eq_true (by kernel_rfl)) h6k hnx hlt6) (trodAll_cons_mk (shut_int Try.underlying3 w7) trodAll_mk0)))))))
  obtain ⟨l2, hl2, hw2, hb2⟩ : ∃ l : List UInt8, l.length = len2 ∧ WordAt W.heap.size W A2 cap2 l ∧ l.length ≤ 140737488355328 := by
    rcases open_ints Try.underlying22 Try.underlying5 Try.cells5 hf2 with ⟨hcs, hx⟩ | ⟨a, len', cap', zs, hcs, _, hl, hm, hz, hx, hcell, hwz⟩
    · simp [Value.cells] at hcs
      obtain ⟨rfl, rfl, rfl⟩ := hcs
      exact ⟨[], rfl, wordAt_nil, by simp⟩
    · simp [Value.cells] at hcs
      obtain ⟨rfl, rfl, rfl⟩ := hcs
      simp only [Prod.mk.injEq] at hx
      obtain ⟨rfl, rfl⟩ := hx
      simp only [if_true] at hz
      have hreach := sized_slice hsz (j := 2) (t := 22) (e := 5) rfl rfl Try.underlying22
      rw [Try.bytes5] at hreach
      simp only [lits, List.length_map, List.length_take, List.length_drop, reachBytes] at hreach
      have e1 : (bytesOf (zs.take len2)).length = len2 := by rw [bytesOf_len, List.length_take]; omega
      exact ⟨bytesOf (zs.take len2), e1, wordAt_of (by omega) hcell hwz (fun h => hlt2 (.cell a.block a.off) (MemPlace.mem_row.2 ⟨0, h, by simp⟩)), by rw [e1]; omega⟩
  obtain ⟨l6, hl6, hw6, hb6⟩ : ∃ l : List UInt8, l.length = len6 ∧ WordAt W.heap.size W A6 cap6 l ∧ l.length ≤ 140737488355328 := by
    rcases open_ints Try.underlying22 Try.underlying5 Try.cells5 hf6 with ⟨hcs, hx⟩ | ⟨a, len', cap', zs, hcs, _, hl, hm, hz, hx, hcell, hwz⟩
    · simp [Value.cells] at hcs
      obtain ⟨rfl, rfl, rfl⟩ := hcs
      exact ⟨[], rfl, wordAt_nil, by simp⟩
    · simp [Value.cells] at hcs
      obtain ⟨rfl, rfl, rfl⟩ := hcs
      simp only [Prod.mk.injEq] at hx
      obtain ⟨rfl, rfl⟩ := hx
      simp only [if_true] at hz
      have hreach := sized_slice hsz (j := 6) (t := 22) (e := 5) rfl rfl Try.underlying22
      rw [Try.bytes5] at hreach
      simp only [lits, List.length_map, List.length_take, List.length_drop, reachBytes] at hreach
      have e1 : (bytesOf (zs.take len6)).length = len6 := by rw [bytesOf_len, List.length_take]; omega
      exact ⟨bytesOf (zs.take len6), e1, wordAt_of (by omega) hcell hwz (fun h => hlt6 (.cell a.block a.off) (MemPlace.mem_row.2 ⟨0, h, by simp⟩)), by rw [e1]; omega⟩
  obtain ⟨zs, hl4, hw4, hb4, hc4⟩ : ∃ zs : List Int, zs.length = len4 ∧ IntsAt W.heap.size W A4 zs ∧ zs.length ≤ 140737488355328 ∧ (A4 = none → cap4 = 0) := by
    rcases open_ints Try.underlying23 Try.underlying3 Try.cells3 hf4 with ⟨hcs, hx⟩ | ⟨a, len', cap', zs, hcs, _, hl, hm, hz, hx, hcell, hwz⟩
    · simp [Value.cells] at hcs
      obtain ⟨rfl, rfl, rfl⟩ := hcs
      exact ⟨[], rfl, intsAt_nil, by simp, fun _ => rfl⟩
    · simp [Value.cells] at hcs
      obtain ⟨rfl, rfl, rfl⟩ := hcs
      simp only [Prod.mk.injEq] at hx
      obtain ⟨rfl, rfl⟩ := hx
      simp only [if_true] at hz
      have hreach := sized_slice hsz (j := 4) (t := 23) (e := 3) rfl rfl Try.underlying23
      rw [Try.bytes3] at hreach
      simp only [lits, List.length_map, List.length_take, List.length_drop, reachBytes] at hreach
      have e1 : (zs.take len4).length = len4 := by rw [List.length_take]; omega
      exact ⟨zs.take len4, e1, intsAt_of (by omega) hcell (fun h => hlt4 (.cell a.block a.off) (MemPlace.mem_row.2 ⟨0, h, by simp⟩)), by rw [e1]; omega, fun h => by cases h⟩
  obtain ⟨Ws, hl5, hw5, hb5, hc5⟩ : ∃ Ws : List (List UInt8), Ws.length = len5 ∧ WordsAt W.heap.size W A5 Ws ∧ Ws.length ≤ 140737488355328 ∧ (A5 = none → cap5 = 0) := by
    rcases Deep.open_int_rows Try.underlying24 Try.underlying22 Try.underlying5 Try.cells22 Try.cells5 hf5 with ⟨hcs, hx⟩ | ⟨a, len', cap', A, L, C, Z, hcs, _, hl, hm, hx, hrow⟩
    · simp [Value.cells] at hcs
      obtain ⟨rfl, rfl, rfl⟩ := hcs
      exact ⟨[], rfl, ⟨0, 0, fun h => absurd h (by simp), fun r hr => absurd hr (by simp)⟩, by simp, fun _ => rfl⟩
    · simp [Value.cells] at hcs
      obtain ⟨rfl, rfl, rfl⟩ := hcs
      simp only [Prod.mk.injEq] at hx
      obtain ⟨rfl, rfl⟩ := hx
      have hreach := sized_slice hsz (j := 5) (t := 24) (e := 22) rfl rfl Try.underlying24
      rw [Try.bytes22] at hreach
      simp only [List.length_map, List.length_range, reachBytes] at hreach
      have e1 := wordsOf_len len5 L Z
      refine ⟨wordsOf len5 L Z, e1, wordsAt_of hl (fun h => hlt5 (.cell a.block a.off) (List.mem_append_left _ (MemPlace.mem_row.2 ⟨0, h, by simp⟩))) hrow (fun r hr a' hA' hz => ?_), by rw [e1]; omega, fun h => by cases h⟩
      refine hlt5 (.cell a'.block a'.off) (List.mem_append_right _ (List.mem_flatMap.2 ⟨r, List.mem_range.2 hr, ?_⟩))
      rw [hA']
      exact MemPlace.mem_row.2 ⟨0, hz, by simp⟩
  subst hl2
  subst hl6
  subst hl4
  subst hl5
  refine (leaves_any z0 z1 z3 z7 A2 A4 A5 A6 cap2 cap4 cap5 cap6 l2 l6 zs zs.length rfl Ws W hw2 hw4 hc4 hw5 hc5 hw6 hb2 hb4 hb5 hb6).mono fun e W' ⟨he, hnx⟩ => ?_
  subst he
  exact ⟨_, rfl, fin _ hnx⟩

/-- The statement. -/
theorem leaves_holds : Rows.FnFramedLeavesTheWritesWholeSaid :=
  OpenClaim.holds_of_wide 4 Try.f4 rfl rfl rfl rfl rfl rfl rfl ⟨rfl, rfl, rfl, rfl, rfl⟩ rfl rfl rfl rfl rfl (by kernel_rfl) Try.func4 (by kernel_rfl)
    (of_decide_eq_true (by kernel_rfl)) (by unfold Func.isWrapper; first | (rw [if_pos (by decide +kernel)]; kernel_rfl) | (rw [if_neg (by decide +kernel)]; exact ⟨rfl, rfl⟩))
    (fun os started H enc _ => leaves_lifted os started H enc)

end Go.Proofs.Qxb6629377a
