/-
  DERIVED. Seat b6629267a: the contracts of Splitter.Write, ZZstate, ZZbufText, ZZnewSplitter.
-/
import Derived.Test.Qxb6629267aBld
import Derived.Lib.IndexBytes
namespace Go.Proofs.Qxb6629267a
open Go.RowKit

/-- The six cells behind the builder. -/
def tl (src : ByteArray) (pos : Int) (mo : Bool) (rd : Int) (sp : Bool) (st : Int) : List Value := [.string src, .int .i64 pos, .bool mo, .int .i64 rd, .bool sp, .int .i64 st]

theorem set_src (src src' : ByteArray) (pos : Int) (mo : Bool) (rd : Int) (sp : Bool) (st : Int) : (tl src pos mo rd sp st).set 0 (.string src') = tl src' pos mo rd sp st := rfl
theorem set_pos (src : ByteArray) (pos pos' : Int) (mo : Bool) (rd : Int) (sp : Bool) (st : Int) : (tl src pos mo rd sp st).set 1 (.int .i64 pos') = tl src pos' mo rd sp st := rfl
theorem set_mo (src : ByteArray) (pos : Int) (mo mo' : Bool) (rd : Int) (sp : Bool) (st : Int) : (tl src pos mo rd sp st).set 2 (.bool mo') = tl src pos mo' rd sp st := rfl
theorem set_sp (src : ByteArray) (pos : Int) (mo : Bool) (rd : Int) (sp sp' : Bool) (st : Int) : (tl src pos mo rd sp st).set 4 (.bool sp') = tl src pos mo rd sp' st := rfl
theorem set_st (src : ByteArray) (pos : Int) (mo : Bool) (rd : Int) (sp : Bool) (st st' : Int) : (tl src pos mo rd sp st).set 5 (.int .i64 st') = tl src pos mo rd sp st' := rfl

/-- All cells of a Splitter as facts of the world. -/
theorem BAt.facts {B U b : Nat} {p : Value} {l : List UInt8} {src : ByteArray} {pos : Int} {mo : Bool} {rd : Int} {sp : Bool} {st : Int} {w : World} (h : BAt B U b p l (tl src pos mo rd sp st) w) :
    (w.cell? ⟨b, 2, none⟩ = some (.string src) ∧ w.cell? ⟨b, 3, none⟩ = some (.int .i64 pos) ∧ w.cell? ⟨b, 4, none⟩ = some (.bool mo) ∧ w.cell? ⟨b, 5, none⟩ = some (.int .i64 rd) ∧ w.cell? ⟨b, 6, none⟩ = some (.bool sp) ∧ w.cell? ⟨b, 7, none⟩ = some (.int .i64 st)) ∧
    (w.frozen? ⟨b, 2, none⟩ = false ∧ w.frozen? ⟨b, 3, none⟩ = false ∧ w.frozen? ⟨b, 4, none⟩ = false ∧ w.frozen? ⟨b, 5, none⟩ = false ∧ w.frozen? ⟨b, 6, none⟩ = false ∧ w.frozen? ⟨b, 7, none⟩ = false) :=
  ⟨⟨h.cell 0, h.cell 1, h.cell 2, h.cell 3, h.cell 4, h.cell 5⟩, ⟨h.frozen 2, h.frozen 3, h.frozen 4, h.frozen 5, h.frozen 6, h.frozen 7⟩⟩

/-- The plain end of 'Write': the text goes in behind, the lexer's source is the whole, more and split are set. -/
theorem BAt.wrote {B U b : Nat} {p : Value} {l : List UInt8} {src : ByteArray} {pos : Int} {mo : Bool} {rd : Int} {sp : Bool} {st : Int} {w : World} (h : BAt B U b p l (tl src pos mo rd sp st) w) (s' : ByteArray) :
    BAt B U b p l (tl s' pos true rd true st) (((w.setCell ⟨b, 2, none⟩ (.string s')).setCell ⟨b, 4, none⟩ (.bool true)).setCell ⟨b, 6, none⟩ (.bool true)) := by
  have h1 := h.set 0 (.string s')
  rw [set_src] at h1
  have h2 := h1.set 2 (.bool true)
  rw [set_mo] at h2
  have h3 := h2.set 4 (.bool true)
  rw [set_sp] at h3
  exact h3

set_option maxHeartbeats 1000000 in
theorem write_plain (B U b : Nat) (p : Value) (src : ByteArray) (ps : Int) (mo : Bool) (rd : Int) (sp : Bool) (text : ByteArray) (w : World) (h : BAt B U b p src.data.toList (tl src ps mo rd sp 0) w) (hp : p = .pointer none ∨ p = .pointer (some ⟨b, 0, none⟩))
    (hlen : src.size + text.size ≤ 140737488355328) (hBw : B ≤ w.heap.size) :
    Calls Try.prog 7 #[.pointer (some ⟨b, 0, none⟩), .string text] w fun e w' => e = .returned (.tuple #[]) ∧ BAt B w'.heap.size b (.pointer (some ⟨b, 0, none⟩)) (src.data.toList ++ text.data.toList) (tl ⟨(src.data.toList ++ text.data.toList).toArray⟩ ps true rd true 0) w' ∧ Below B w w' := by
  obtain ⟨⟨c2, c3, c4, c5, c6, c7⟩, ⟨f2, f3, f4, f5, f6, f7⟩⟩ := h.facts
  have hl1 : src.data.toList.length = src.size := by rw [Array.length_toList]; rfl
  go_enter Try.func7, Try.ntmps7
  go_wp2_with fail
  refine (writeString_any B U b p _ _ text _ h hp (by omega) hBw).mono ?_
  rintro e w1 ⟨rfl, h1, hb1⟩
  clear c2 c3 c4 c5 c6 c7 f2 f3 f4 f5 f6 f7
  go_wp2_with fail
  refine (string_any B _ b _ _ _ w1 h1 (Nat.le_trans hBw hb1.size)).mono ?_
  rintro e w2 ⟨rfl, h2, hb2, _⟩
  obtain ⟨⟨c2, c3, c4, c5, c6, c7⟩, ⟨f2, f3, f4, f5, f6, f7⟩⟩ := h2.facts
  go_wp2
  go_end0
  have h3 := h2.wrote ⟨(src.data.toList ++ text.data.toList).toArray⟩
  refine ⟨rfl, h3.widen (by have := h3.2.2.1; exact this) (Nat.le_refl _), ?_⟩
  exact (((hb1.trans hb2).setCell (p := ⟨b, 2, none⟩) h2.1 _).setCell (p := ⟨b, 4, none⟩) h2.1 _).setCell (p := ⟨b, 6, none⟩) h2.1 _

set_option maxHeartbeats 1000000 in
theorem write_cut (B U b : Nat) (p : Value) (src : ByteArray) (st ps : Nat) (mo : Bool) (rd : Int) (sp : Bool) (text : ByteArray) (w : World) (h : BAt B U b p src.data.toList (tl src ps mo rd sp st) w)
    (hst0 : 0 < st) (hst : st ≤ ps) (hps : ps ≤ src.size) (hlen : src.size + text.size ≤ 140737488355328) (hBw : B ≤ w.heap.size) :
    Calls Try.prog 7 #[.pointer (some ⟨b, 0, none⟩), .string text] w fun e w' => e = .returned (.tuple #[]) ∧ BAt B w'.heap.size b (.pointer (some ⟨b, 0, none⟩)) (src.data.toList.drop st ++ text.data.toList) (tl ⟨(src.data.toList.drop st ++ text.data.toList).toArray⟩ ((ps - st : Nat) : Int) true rd true 0) w' ∧ Below B w w' := by
  obtain ⟨⟨c2, c3, c4, c5, c6, c7⟩, ⟨f2, f3, f4, f5, f6, f7⟩⟩ := h.facts
  have hl1 : src.data.toList.length = src.size := by rw [Array.length_toList]; rfl
  have hsl : st ≤ src.size := by omega
  go_enter Try.func7, Try.ntmps7
  go_wp2_with fail
  go_quiet (fail)
  go_wp2_with fail
  refine (reset_any B U b p _ _ _ (h.drewN _)).mono ?_
  rintro e w1 ⟨rfl, h1, hb1⟩
  clear c2 c3 c4 c5 c6 c7 f2 f3 f4 f5 f6 f7
  go_wp2_with fail
  refine (writeString_any B U b _ _ _ _ w1 h1 (Or.inl rfl) (by simp; omega) (Nat.le_trans hBw hb1.size)).mono ?_
  rintro e w2 ⟨rfl, h2, hb2⟩
  rw [List.nil_append, Lib.extract_to_end] at h2
  obtain ⟨⟨c2, c3, c4, c5, c6, c7⟩, ⟨f2, f3, f4, f5, f6, f7⟩⟩ := h2.facts
  go_wp2_with fail
  go_region
  go_wp2_with fail
  have h3 := h2.set 1 (.int .i64 ((ps : Int) - (st : Int)))
  rw [set_pos] at h3
  have h4 := h3.set 5 (.int .i64 0)
  rw [set_st] at h4
  have hb4 := (hb2.setCell (p := ⟨b, 3, none⟩) h2.1 (.int .i64 ((ps : Int) - (st : Int)))).setCell (p := ⟨b, 7, none⟩) h2.1 (.int .i64 0)
  clear c2 c3 c4 c5 c6 c7 f2 f3 f4 f5 f6 f7
  refine (writeString_any B _ b _ _ _ text _ h4.drew (Or.inr rfl) (by simp; omega) (Nat.le_trans (Nat.le_trans hBw hb1.size) hb4.size)).mono ?_
  rintro e w5 ⟨rfl, h5, hb5⟩
  have hb15 := (hb1.trans hb4).drew.trans hb5
  clear h3 h4 hb4 hb5 hb2
  go_wp2_with fail
  refine (string_any B _ b _ _ _ w5 h5 (Nat.le_trans hBw hb15.size)).mono ?_
  rintro e w6 ⟨rfl, h6, hb6, _⟩
  obtain ⟨⟨c2, c3, c4, c5, c6, c7⟩, ⟨f2, f3, f4, f5, f6, f7⟩⟩ := h6.facts
  go_wp2
  go_end0
  have h7 := h6.wrote ⟨(src.data.toList.drop st ++ text.data.toList).toArray⟩
  have ep : ((ps - st : Nat) : Int) = (ps : Int) - (st : Int) := by omega
  rw [ep]
  refine ⟨rfl, h7.widen (by have := h7.2.2.1; exact this) (Nat.le_refl _), ?_⟩
  have hb0 : Below B w (w.drewN nq) := below_drewN (Below.refl _ _) _
  exact (((hb0.trans (hb15.trans hb6)).setCell (p := ⟨b, 2, none⟩) h6.1 _).setCell (p := ⟨b, 4, none⟩) h6.1 _).setCell (p := ⟨b, 6, none⟩) h6.1 _

/-- 'Splitter.Write', from every state with start ≤ pos ≤ the length of the source. -/
theorem write_any (B U b : Nat) (p : Value) (src : ByteArray) (st ps : Nat) (mo : Bool) (rd : Int) (sp : Bool) (text : ByteArray) (w : World) (h : BAt B U b p src.data.toList (tl src ps mo rd sp st) w) (hp : p = .pointer none ∨ p = .pointer (some ⟨b, 0, none⟩))
    (hst : st ≤ ps) (hps : ps ≤ src.size) (hlen : src.size + text.size ≤ 140737488355328) (hBw : B ≤ w.heap.size) :
    Calls Try.prog 7 #[.pointer (some ⟨b, 0, none⟩), .string text] w fun e w' => e = .returned (.tuple #[]) ∧ BAt B w'.heap.size b (.pointer (some ⟨b, 0, none⟩)) (src.data.toList.drop st ++ text.data.toList) (tl ⟨(src.data.toList.drop st ++ text.data.toList).toArray⟩ ((ps - st : Nat) : Int) true rd true 0) w' ∧ Below B w w' := by
  by_cases h0 : st = 0
  · subst h0
    exact write_plain B U b p src ps mo rd sp text w h hp hlen hBw
  · exact write_cut B U b p src st ps mo rd sp text w h (by omega) hst hps hlen hBw

set_option maxHeartbeats 1000000 in
/-- 'ZZstate': the six fields; the world but for draws. -/
theorem state_any (B U b : Nat) (p : Value) (l : List UInt8) (src : ByteArray) (pos : Int) (mo : Bool) (rd : Int) (sp : Bool) (st : Int) (w : World) (h : BAt B U b p l (tl src pos mo rd sp st) w) :
    Calls Try.prog 8 #[.pointer (some ⟨b, 0, none⟩)] w fun e w' => e = .returned (.tuple #[.string src, .int .i64 pos, .int .i64 st, .int .i64 rd, .bool mo, .bool sp]) ∧ ∃ n, w' = w.drewN n := by
  obtain ⟨⟨c2, c3, c4, c5, c6, c7⟩, _⟩ := h.facts
  go_enter Try.func8, Try.ntmps8
  go_wp2
  go_quiet (fail)
  go_wp2
  exact bodyPost_ret (v := .tuple #[.string src, .int .i64 pos, .int .i64 st, .int .i64 rd, .bool mo, .bool sp]) (by simp [results, Try.results8, go_sem]) rfl ⟨rfl, _, rfl⟩

theorem bufText_any (B U b : Nat) (p : Value) (l : List UInt8) (t : List Value) (w : World) (h : BAt B U b p l t w) (hBw : B ≤ w.heap.size) :
    Calls Try.prog 9 #[.pointer (some ⟨b, 0, none⟩)] w fun e w' => e = .returned (.string ⟨l.toArray⟩) ∧ BAt B U b p l t w' ∧ Below B w w' ∧ Same U w w' := by
  go_enter Try.func9, Try.ntmps9
  go_wp2_with fail
  refine (string_any B U b p l t w h hBw).mono ?_
  rintro e w2 ⟨rfl, h2, hb2, hs2⟩
  go_wp2
  go_ret
  exact ⟨rfl, h2, hb2, hs2⟩

end Go.Proofs.Qxb6629267a
