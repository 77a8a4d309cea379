/-
  DERIVED. Seat b6629267a: the walk of 'FnWriteTwiceEqualsWriteOfJoin'.
-/
import Derived.Test.Qxb6629267aSpl
namespace Go.Proofs.Qxb6629267a
open Go.RowKit

/-- The call answers some bool. -/
def SomeBool (e : Ending) : Prop := ∃ r, e = .returned (.bool r)

theorem bytes5_any (a0 : ByteArray) (v1 v2 v3 v4 v5 : Value) (a6 a7 : ByteArray) (w : World) (w0 : a0.size ≤ maxLen) (w6 : a6.size ≤ maxLen) (w7 : a7.size ≤ maxLen) :
    Calls Try.prog 5 #[.string a0, v1, v2, v3, v4, v5, .string a6, .string a7] w fun e w' => w = w' ∧ SomeBool e := by
  unfold maxLen at w0 w6 w7
  go_enter Try.func5, Try.ntmps5
  go_wp2
  all_goals go_ret
  all_goals exact ⟨rfl, ⟨_, rfl⟩⟩

theorem eta_bytes (s : ByteArray) : (⟨s.data.toList.toArray⟩ : ByteArray) = s := by cases s; simp

theorem fresh_at (w : World) : BAt w.heap.size (w.heap.size + 1) w.heap.size (.pointer none) [] (tl ⟨#[]⟩ 0 false 0 false 0) (w.alloc (.cells #[.pointer none, .slice none 0 0, .string ⟨#[]⟩, .int .i64 0, .bool false, .int .i64 0, .bool false, .int .i64 0] 38)) := by
  refine ⟨Nat.le_refl _, by omega, by simp, rfl, .slice none 0 0, ?_, World.ownsRowF_nil _ _ _ _, by simp [Value.ownBlock], by simp [Value.ownBlock]⟩
  show (w.heap.push _)[w.heap.size]? = _
  simp [tl]

/-- The five cells of the lexer and the start laid in. -/
theorem BAt.laid {B U b : Nat} {p : Value} {l : List UInt8} {s0 : ByteArray} {ps0 : Int} {mo0 : Bool} {rd0 : Int} {sp0 : Bool} {st0 : Int} {w : World} (h : BAt B U b p l (tl s0 ps0 mo0 rd0 sp0 st0) w) (s : ByteArray) (ps : Int) (mo : Bool) (rd : Int) (sp : Bool) (st : Int) :
    BAt B U b p l (tl s ps mo rd sp st) ((((((w.setCell ⟨b, 2, none⟩ (.string s)).setCell ⟨b, 3, none⟩ (.int .i64 ps)).setCell ⟨b, 4, none⟩ (.bool mo)).setCell ⟨b, 5, none⟩ (.int .i64 rd)).setCell ⟨b, 6, none⟩ (.bool sp)).setCell ⟨b, 7, none⟩ (.int .i64 st)) :=
  (((((h.set 0 (.string s)).set 1 (.int .i64 ps)).set 2 (.bool mo)).set 3 (.int .i64 rd)).set 4 (.bool sp)).set 5 (.int .i64 st)

set_option maxHeartbeats 1000000 in
set_option maxRecDepth 100000 in
theorem new_any (src : ByteArray) (ps st rd : Int) (mo sp : Bool) (w : World) (hlen : src.size ≤ 140737488355328) :
    Calls Try.prog 6 #[.string src, .int .i64 ps, .int .i64 st, .int .i64 rd, .bool mo, .bool sp] w fun e w' =>
      e = .returned (.pointer (some ⟨w.heap.size, 0, none⟩)) ∧ BAt w.heap.size w'.heap.size w.heap.size (.pointer (some ⟨w.heap.size, 0, none⟩)) src.data.toList (tl src ps mo rd sp st) w' ∧ Below w.heap.size w w' := by
  go_enter Try.func6, Try.ntmps6
  go_wp2_with fail
  refine (writeString_any _ _ _ _ _ _ src _ (fresh_at w) (Or.inl rfl) (by simpa using hlen) (by simp)).mono ?_
  rintro e w1 ⟨rfl, h1, hb1⟩
  rw [List.nil_append] at h1
  have hb1' : Below w.heap.size w w1 := ((Below.refl _ _).alloc (Nat.le_refl _) _).trans hb1
  clear hb1
  go_wp2_with fail
  refine (string_any _ _ _ _ _ _ w1 h1 hb1'.size).mono ?_
  rintro e w2 ⟨rfl, h2, hb2, _⟩
  rw [eta_bytes]
  obtain ⟨⟨c2, c3, c4, c5, c6, c7⟩, ⟨f2, f3, f4, f5, f6, f7⟩⟩ := h2.facts
  go_wp2
  go_ret
  have h3 := h2.laid src ps mo rd sp st
  refine ⟨rfl, h3.widen h3.2.2.1 (Nat.le_refl _), ?_⟩
  exact ((((((hb1'.trans hb2).setCell (p := ⟨w.heap.size, 2, none⟩) h2.1 _).setCell (p := ⟨w.heap.size, 3, none⟩) h2.1 _).setCell (p := ⟨w.heap.size, 4, none⟩) h2.1 _).setCell (p := ⟨w.heap.size, 5, none⟩) h2.1 _).setCell (p := ⟨w.heap.size, 6, none⟩) h2.1 _).setCell (p := ⟨w.heap.size, 7, none⟩) h2.1 _

set_option maxHeartbeats 1000000 in
set_option maxRecDepth 100000 in
/-- The early ways out: a string too long, or a state out of order. -/
theorem twice_out (a0 : ByteArray) (a1 a2 a3 : Int) (a4 a5 : Bool) (a6 a7 : ByteArray) (w0 : a0.size ≤ maxLen) (w6 : a6.size ≤ maxLen) (w7 : a7.size ≤ maxLen) (w : World)
    (h : ¬ (a0.size ≤ 1048576 ∧ a6.size ≤ 1048576 ∧ a7.size ≤ 1048576 ∧ a0.size + a6.size + a7.size ≤ 1048576 ∧ 0 ≤ a2 ∧ a2 ≤ a1 ∧ a1 ≤ a0.size)) :
    Calls Try.prog 3 #[.string a0, .int .i64 a1, .int .i64 a2, .int .i64 a3, .bool a4, .bool a5, .string a6, .string a7] w fun e w' => e = .returned (.bool true) ∧ Below w.heap.size w w' := by
  have HB := bytes5_any a0 (.int .i64 a1) (.int .i64 a2) (.int .i64 a3) (.bool a4) (.bool a5) a6 a7 w w0 w6 w7
  have HBB : Hid (Calls Try.prog 5 #[.string a0, .int .i64 a1, .int .i64 a2, .int .i64 a3, .bool a4, .bool a5, .string a6, .string a7] w fun e w' => w = w' ∧ SomeBool e) := HB
  clear HB
  unfold maxLen at w0 w6 w7
  by_cases h1 : (1048576 : Int) < a0.size
  · clear h
    go_enter Try.func3, Try.ntmps3
    go_wp2_with (first | (go_at_call 5; refine HBB.out.mono ?_; rintro e w' ⟨rfl, r, rfl⟩))
    all_goals go_ret
    all_goals exact ⟨rfl, Below.refl _ _⟩
  by_cases h2 : (1048576 : Int) < a6.size
  · clear h
    go_enter Try.func3, Try.ntmps3
    go_wp2_with (first | (go_at_call 5; refine HBB.out.mono ?_; rintro e w' ⟨rfl, r, rfl⟩))
    all_goals go_ret
    all_goals exact ⟨rfl, Below.refl _ _⟩
  by_cases h3 : (1048576 : Int) < a7.size
  · clear h
    go_enter Try.func3, Try.ntmps3
    go_wp2_with (first | (go_at_call 5; refine HBB.out.mono ?_; rintro e w' ⟨rfl, r, rfl⟩))
    all_goals go_ret
    all_goals exact ⟨rfl, Below.refl _ _⟩
  by_cases h4 : (1048576 : Int) < a0.size + a6.size + a7.size
  · clear h
    go_enter Try.func3, Try.ntmps3
    go_wp2_with (first | (go_at_call 5; refine HBB.out.mono ?_; rintro e w' ⟨rfl, r, rfl⟩))
    all_goals go_ret
    all_goals exact ⟨rfl, Below.refl _ _⟩
  by_cases h5 : a2 < 0
  · clear h
    go_enter Try.func3, Try.ntmps3
    go_wp2_with (first | (go_at_call 5; refine HBB.out.mono ?_; rintro e w' ⟨rfl, r, rfl⟩))
    all_goals go_ret
    all_goals exact ⟨rfl, Below.refl _ _⟩
  by_cases h6 : a1 < a2
  · clear h
    go_enter Try.func3, Try.ntmps3
    go_wp2_with (first | (go_at_call 5; refine HBB.out.mono ?_; rintro e w' ⟨rfl, r, rfl⟩))
    all_goals go_ret
    all_goals exact ⟨rfl, Below.refl _ _⟩
  by_cases h7 : (a0.size : Int) < a1
  · clear h
    go_enter Try.func3, Try.ntmps3
    go_wp2_with (first | (go_at_call 5; refine HBB.out.mono ?_; rintro e w' ⟨rfl, r, rfl⟩))
    all_goals go_ret
    all_goals exact ⟨rfl, Below.refl _ _⟩
  exact absurd ⟨by omega, by omega, by omega, by omega, by omega, by omega, by omega⟩ h

end Go.Proofs.Qxb6629267a
