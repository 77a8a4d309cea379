/-
  DERIVED. Seat b6629267a: the walk of 'FnWriteTwiceEqualsWriteOfJoin', the way that writes.
-/
import Derived.Test.Qxb6629267aTwice
namespace Go.Proofs.Qxb6629267a
open Go.RowKit

/-- The text that both Splitters hold in the end, as a list. -/
def joined (src a b : ByteArray) (st : Nat) : List UInt8 := src.data.toList.drop st ++ a.data.toList ++ b.data.toList

theorem joined_eq (src a b : ByteArray) (st : Nat) : (⟨(joined src a b st).toArray⟩ : ByteArray) = src.extract st src.size ++ a ++ b := by
  apply ByteArray.ext
  apply Array.toList_inj.1
  show joined src a b st = _
  rw [joined, ByteArray.data_append, ByteArray.data_append, Array.toList_append, Array.toList_append, Lib.extract_to_end]

theorem joined_two (src a b : ByteArray) (st : Nat) : src.data.toList.drop st ++ (a ++ b).data.toList = joined src a b st := by
  rw [joined, ByteArray.data_append, Array.toList_append, List.append_assoc]

set_option maxHeartbeats 1600000 in
set_option maxRecDepth 100000 in
theorem twice_in (a0 : ByteArray) (ps st : Nat) (a3 : Int) (a4 a5 : Bool) (a6 a7 : ByteArray) (w : World) (hsum : a0.size + a6.size + a7.size ≤ 1048576) (hst : st ≤ ps) (hps : ps ≤ a0.size) :
    Calls Try.prog 3 #[.string a0, .int .i64 ps, .int .i64 st, .int .i64 a3, .bool a4, .bool a5, .string a6, .string a7] w fun e w' => e = .returned (.bool true) ∧ Below w.heap.size w w' := by
  have HB := bytes5_any a0 (.int .i64 ps) (.int .i64 st) (.int .i64 a3) (.bool a4) (.bool a5) a6 a7 w (by unfold maxLen; omega) (by unfold maxLen; omega) (by unfold maxLen; omega)
  have HBB : Hid (Calls Try.prog 5 #[.string a0, .int .i64 ps, .int .i64 st, .int .i64 a3, .bool a4, .bool a5, .string a6, .string a7] w fun e w' => w = w' ∧ SomeBool e) := HB
  clear HB
  have hl0 : a0.data.toList.length = a0.size := by rw [Array.length_toList]; rfl
  have hl6 : a6.data.toList.length = a6.size := by rw [Array.length_toList]; rfl
  have hl7 : a7.data.toList.length = a7.size := by rw [Array.length_toList]; rfl
  have HL : Hid (a0.data.toList.length = a0.size ∧ a6.data.toList.length = a6.size ∧ a7.data.toList.length = a7.size) := ⟨hl0, hl6, hl7⟩
  clear hl0 hl6 hl7
  go_enter Try.func3, Try.ntmps3
  go_wp2_with (first | (go_at_call 5; refine HBB.out.mono ?_; rintro e w' ⟨rfl, r, rfl⟩))
  · go_ret
    exact ⟨rfl, Below.refl _ _⟩
  refine (new_any a0 ps st a3 a4 a5 w (by omega)).mono ?_
  rintro e w1 ⟨rfl, h1, hb1⟩
  go_wp2_with fail
  refine (write_any _ _ _ _ a0 st ps a4 a3 a5 a6 w1 h1 (Or.inr rfl) hst hps (by omega) hb1.size).mono ?_
  rintro e w2 ⟨rfl, h2, hb2⟩
  go_wp2_with fail
  refine (write_any _ _ _ _ ⟨(a0.data.toList.drop st ++ a6.data.toList).toArray⟩ 0 (ps - st) true a3 true a7 w2 h2 (Or.inr rfl) (Nat.zero_le _) ?hs1 ?hs2 (Nat.le_trans hb1.size hb2.size)).mono ?_
  case hs1 =>
    obtain ⟨e1, e2, e3⟩ := HL.out
    show ps - st ≤ (a0.data.toList.drop st ++ a6.data.toList).length
    simp [e1, e2]
    omega
  case hs2 =>
    obtain ⟨e1, e2, e3⟩ := HL.out
    show (a0.data.toList.drop st ++ a6.data.toList).length + a7.size ≤ _
    simp [e1, e2]
    omega
  rintro e w3 ⟨rfl, h3, hb3⟩
  have hb03 := (hb1.trans hb2).trans hb3
  have h3' : BAt w.heap.size w3.heap.size w.heap.size (.pointer (some ⟨w.heap.size, 0, none⟩)) (joined a0 a6 a7 st) (tl (a0.extract st a0.size ++ a6 ++ a7) ((ps : Int) - (st : Int)) true a3 true 0) w3 := by
    have e1 : ((ps - st - 0 : Nat) : Int) = (ps : Int) - (st : Int) := by omega
    rw [e1] at h3
    rw [← joined_eq]
    exact h3
  clear h1 h2 h3 hb1 hb2 hb3
  go_wp2_with fail
  refine (new_any a0 ps st a3 a4 a5 w3 (by omega)).mono ?_
  rintro e w4 ⟨rfl, g1, gb1⟩
  have h4 := h3'.below gb1
  go_wp2_with fail
  refine (write_any _ _ _ _ a0 st ps a4 a3 a5 (a6 ++ a7) w4 g1 (Or.inr rfl) hst hps (by rw [ByteArray.size_append]; omega) gb1.size).mono ?_
  rintro e w5 ⟨rfl, g2, gb2⟩
  have g2' : BAt w3.heap.size w5.heap.size w3.heap.size (.pointer (some ⟨w3.heap.size, 0, none⟩)) (joined a0 a6 a7 st) (tl (a0.extract st a0.size ++ a6 ++ a7) ((ps : Int) - (st : Int)) true a3 true 0) w5 := by
    have e1 : ((ps - st : Nat) : Int) = (ps : Int) - (st : Int) := by omega
    rw [e1, joined_two] at g2
    rw [← joined_eq]
    exact g2
  have h5 := h4.below gb2
  have gb12 := gb1.trans gb2
  have hb05 := hb03.trans (gb12.mono hb03.size)
  clear g1 g2 gb1 h3' h4 gb2
  go_wp2_with fail
  refine (state_any _ _ _ _ _ _ _ _ _ _ _ _ h5).mono ?_
  rintro e w6 ⟨rfl, n6, rfl⟩
  go_wp2_with fail
  refine (state_any _ _ _ _ _ _ _ _ _ _ _ _ (g2'.drewN n6)).mono ?_
  rintro e w7 ⟨rfl, n7, rfl⟩
  go_wp2_with fail
  refine (bufText_any _ _ _ _ _ _ _ (by exact h5.drewN (n6 + n7)) (by exact hb05.size)).mono ?_
  rintro e w8 ⟨rfl, h8, hb8, hs8⟩
  rw [joined_eq]
  have g8 : BAt w3.heap.size w5.heap.size w3.heap.size (.pointer (some ⟨w3.heap.size, 0, none⟩)) (joined a0 a6 a7 st) (tl (a0.extract st a0.size ++ a6 ++ a7) ((ps : Int) - (st : Int)) true a3 true 0) w8 :=
    BAt.same (g2'.drewN (n6 + n7)) hs8 (Nat.le_refl _) hb8.size
  have hb58 : Below w.heap.size w w8 := (below_drewN hb05 (n6 + n7)).trans hb8
  go_wp2_with fail
  refine (bufText_any _ _ _ _ _ _ w8 g8 (by have := g8.2.2.1; have := gb12.size; omega)).mono ?_
  rintro e w9 ⟨rfl, _, hb9, _⟩
  rw [joined_eq]
  have hb59 : Below w.heap.size w w9 := hb58.trans (hb9.mono hb03.size)
  go_wp2
  go_ret
  refine ⟨?_, hb59⟩
  simp

end Go.Proofs.Qxb6629267a
