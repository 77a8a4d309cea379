/-
  DERIVED. Seat b6629267a: 'Rows.FnWriteScriptFromZeroConcatenatesSaid', proved.
-/
import Derived.Test.Qxb6629267aZero
import Derived.ProofKit
import Derived.SizedLaws
namespace Go.Proofs.Qxb6629267a
open Go.ChangeShapes Go.WideShapes Go.ChangeAt Go.RowKit

theorem Try.own : ownKnob Try.prog.godebug = none := by kernel_rfl
theorem Try.laidOut : laidOutB Try.prog = true := by kernel_rfl
theorem Try.cells9 : Try.prog.cellsOf 9 = 1 := by kernel_rfl
theorem Try.bytes9 : Try.prog.bytesOf 9 = 16 := by kernel_rfl

set_option maxRecDepth 100000 in
theorem zero_lifted (os : Os) (started : os.Started) (H : Type) (enc : TypeId × Value → H) :
    ReturnsInHanded {} Try.checked os 4 .any (Rows.fnWriteScriptFromZeroConcatenatesSpec.pre6 enc Try.prog Try.f4 Rows.fnWriteScriptFromZeroConcatenatesRow.domain false) (Rows.fnWriteScriptFromZeroConcatenatesSpec.post enc Try.prog Try.f4 false true false false) := by
  refine returnsInHanded_of_change_sized (C := Try.checked) Try.own started (by kernel_rfl) Try.func4
    (ChangeSpec.witness6 (enc := enc) (C := Try.checked) false ⟨#[], #[.slice none 0 0], []⟩ 8 (by kernel_rfl) (by kernel_rfl) (by kernel_rfl) (by kernel_rfl)) ?_
  intro W base args ds gs before hval0 hW _ hsz0 _
  have hsz : (DataW.weightsEach Try.prog (Try.f4.params.toList ++ Rows.fnWriteScriptFromZeroConcatenatesSpec.plain.varTypes Try.prog) (ds ++ gs)).all (· ≤ reachBytes) = true := hsz0
  clear hsz0
  have hval : ∀ (j : Nat) t v, Try.f4.params[j]? = some t → args[j]? = some v → Value.okWide Try.prog W .any base t v := hval0
  have hW' := hW
  obtain ⟨p, q, hA0, hV, rfl, _, _⟩ := hW
  have hA : DataW.TrodAll enc Try.prog W 0 (fun _ => true) true Try.f4.params.toList args.toList ds p := hA0
  rw [Try.params4] at hA hval hsz
  obtain ⟨v0, d0, rfl, rfl, h0⟩ := trodAll_one hA
  obtain ⟨rfl, rfl⟩ := trodVars_none hV
  obtain ⟨a0, len, cap, rfl⟩ := okWide_slice Try.underlying29 (hval 0 29 v0 rfl rfl)
  have h0k := h0
  obtain ⟨fuel, hf⟩ := h0
  clear hA0 hval0
  simp only [List.append_nil] at hW'
  have hlt : ∀ x ∈ p, x.block < W.heap.size := fun x hx => by simpa using hW'.lt x hx
  have fin : ∀ (W' : World), Below W.heap.size W W' →
      Rows.fnWriteScriptFromZeroConcatenatesSpec.post enc Try.checked.prog Try.f4 false true false false W #[.slice a0 len cap] (.bool true) W' := by
    intro W' hnx
    refine ⟨_, _, _, [], p, [], hW', ?_, ?_, rfl, hnx.frame _, fun h => by cases h⟩
    · exact trodAll_mk1 (shut_bool Try.underlying4 true)
    · exact trodAll_mk1 (Below.trod Try.laidOut (by kernel_rfl) (of_decide_eq_true (by kernel_rfl)) h0k hnx hlt)
  rcases open_strings Try.underlying29 Try.underlying9 Try.cells9 hf with ⟨hcs, hx⟩ | ⟨a, len', cap', ss, hcs, _, hl, hm, hz, hx, hcell, hws⟩
  · simp [Value.cells] at hcs
    obtain ⟨rfl, rfl, rfl⟩ := hcs
    refine (zero_any none 0 0 0 0 [] W (by simp) (by decide) (by simp) (by simp) (by simp)).mono fun e W' ⟨he, hnx⟩ => ?_
    subst he
    exact ⟨_, rfl, fin _ hnx⟩
  · simp [Value.cells] at hcs
    obtain ⟨rfl, rfl, rfl⟩ := hcs
    simp only [Prod.mk.injEq] at hx
    obtain ⟨rfl, rfl⟩ := hx
    simp only [if_true] at hz
    by_cases hl0 : len = 0
    · subst hl0
      refine (zero_any (some a) 0 0 0 cap [] W (by simp) (by decide) (by simp) (by simp) (by simp)).mono fun e W' ⟨he, hnx⟩ => ?_
      subst he
      exact ⟨_, rfl, fin _ hnx⟩
    · have hreach : len * 16 ≤ 140737488351232 := by
        have := sized_slice hsz (j := 0) (t := 29) (e := 9) rfl rfl Try.underlying29
        rw [Try.bytes9] at this
        simp only [strs, List.length_map, List.length_take, List.length_drop, reachBytes] at this
        omega
      obtain ⟨b, off, spot⟩ := a
      have hspot : spot = none := by simpa [Addr.add] using World.cell?_spot (hcell 0 (by omega))
      subst hspot
      have hbW : b < W.heap.size := hlt (.cell b off) (MemPlace.mem_row.2 ⟨0, by omega, by simp⟩)
      refine (zero_any (some ⟨b, off, none⟩) b off len cap ss W (fun _ => rfl) hreach (by omega) (fun _ => hbW) (fun j hj => by rw [← add_plain]; exact hcell j hj)).mono fun e W' ⟨he, hnx⟩ => ?_
      subst he
      exact ⟨_, rfl, fin _ hnx⟩

/-- The statement. -/
theorem fromZero_holds : Rows.FnWriteScriptFromZeroConcatenatesSaid :=
  OpenClaim.holds_of_wide 4 Try.f4 rfl rfl rfl rfl rfl rfl rfl ⟨rfl, rfl, rfl, rfl, rfl⟩ rfl rfl rfl rfl rfl (by kernel_rfl) Try.func4 (by kernel_rfl)
    (of_decide_eq_true (by kernel_rfl)) (by unfold Func.isWrapper; first | (rw [if_pos (by decide +kernel)]; kernel_rfl) | (rw [if_neg (by decide +kernel)]; exact ⟨rfl, rfl⟩))
    (fun os started H enc _ => zero_lifted os started H enc)


end Go.Proofs.Qxb6629267a
