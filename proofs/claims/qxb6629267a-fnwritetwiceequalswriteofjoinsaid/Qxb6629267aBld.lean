/-
  DERIVED. Seat b6629267a: a strings.Builder that lies at the head of a Splitter (eight cells: addr, buf, src, pos, more, read, split, start): the contracts of copyCheck, WriteString, String, Reset.
-/
import Derived.Test.Qxb6629267aRows
import Derived.WalkKit
import Derived.WalkSpells
import Derived.WalkLawsBesides
import Derived.Lib.FrozenHead
import Derived.Deep.QuietTactic
import Derived.BigQuiet
namespace Go.Proofs.Qxb6629267a
open Go.RowKit

/-- The Splitter at block b, of a call whose blocks begin at B; all that it leads to lies below U. It holds the bytes l; t: the six cells behind the builder. -/
def BAt (B U b : Nat) (p : Value) (l : List UInt8) (t : List Value) (w : World) : Prop :=
  B ≤ b ∧ b < U ∧ U ≤ w.heap.size ∧ t.length = 6 ∧ ∃ v, w.heap[b]? = some (.cells (p :: v :: t).toArray 38 (0, 0)) ∧ w.ownsRowF B 5 1 v l.length (Lib.byteCells l) ∧ v.ownBlock ≠ some b ∧ ∀ g, v.ownBlock = some g → g < U

theorem BAt.widen {B U U' b : Nat} {p : Value} {l : List UInt8} {t : List Value} {w : World} (h : BAt B U b p l t w) (h1 : U ≤ U') (h2 : U' ≤ w.heap.size) : BAt B U' b p l t w := by
  obtain ⟨a1, a2, _, a4, v, a5, a6, a7, a8⟩ := h
  exact ⟨a1, by omega, h2, a4, v, a5, a6, a7, fun g hg => by have := a8 g hg; omega⟩

/-- What lies below U has not turned. -/
theorem BAt.kept {B U b : Nat} {p : Value} {l : List UInt8} {t : List Value} {w w' : World} (h : BAt B U b p l t w) (hk : ∀ k, B ≤ k → k < U → w'.heap[k]? = w.heap[k]?) (hs : U ≤ w'.heap.size) : BAt B U b p l t w' := by
  obtain ⟨a1, a2, a3, a4, v, a5, a6, a7, a8⟩ := h
  refine ⟨a1, a2, hs, a4, v, by rw [hk b a1 a2]; exact a5, ⟨a6.1, ?_⟩, a7, a8⟩
  rcases a6.2 with hn | ⟨g, cap, cur, fz, rfl, hb, hg, r⟩
  · exact .inl hn
  · exact .inr ⟨g, cap, cur, fz, rfl, hb, by rw [hk g hb (a8 g rfl)]; exact hg, r⟩

theorem BAt.below {B U b : Nat} {p : Value} {l : List UInt8} {t : List Value} {w w' : World} (h : BAt B U b p l t w) (hb : Below U w w') : BAt B U b p l t w' :=
  h.kept (fun k _ hk => hb.block k hk) (Nat.le_trans h.2.2.1 hb.size)

/-- A store into one of the cells of the Splitter itself. -/
theorem BAt.set {B U b : Nat} {p : Value} {l : List UInt8} {t : List Value} {w : World} (h : BAt B U b p l t w) (j : Nat) (u : Value) : BAt B U b p l (t.set j u) (w.setCell ⟨b, j + 2, none⟩ u) := by
  obtain ⟨a1, a2, a3, a4, v, a5, a6, a7, a8⟩ := h
  refine ⟨a1, a2, by simpa [World.setCell] using a3, by simpa using a4, v, ?_, ?_, a7, a8⟩
  · simp [World.setCell, Array.getElem?_modify, a5]
  · exact a6.kept (row := some b) ⟨rfl, rfl, rfl, by simp [World.setCell], fun k _ hk => Below.heap_setCell _ _ _ _ (fun e => hk (by simp [e]))⟩ (Or.inr a7)

theorem BAt.cell {B U b : Nat} {p : Value} {l : List UInt8} {t : List Value} {w : World} (h : BAt B U b p l t w) (j : Nat) : w.cell? ⟨b, j + 2, none⟩ = t[j]? := by
  obtain ⟨_, _, _, _, v, a5, _⟩ := h
  rw [Lib.cell_of_heap a5]
  simp

theorem BAt.cell0 {B U b : Nat} {p : Value} {l : List UInt8} {t : List Value} {w : World} (h : BAt B U b p l t w) : w.cell? ⟨b, 0, none⟩ = some p := by
  obtain ⟨_, _, _, _, v, a5, _⟩ := h
  rw [Lib.cell_of_heap a5]
  simp

theorem BAt.frozen {B U b : Nat} {p : Value} {l : List UInt8} {t : List Value} {w : World} (h : BAt B U b p l t w) (j : Nat) : w.frozen? ⟨b, j, none⟩ = false := by
  obtain ⟨_, _, _, _, v, a5, _⟩ := h
  exact Lib.frozen_of_heap a5 j

theorem BAt.shape {B U b : Nat} {p : Value} {l : List UInt8} {t : List Value} {w : World} (h : BAt B U b p l t w) : w.shape? b = some (38, 8) := by
  obtain ⟨_, _, _, a4, v, a5, _⟩ := h
  simp [World.shape?, a5, a4]

theorem info34 : ∃ j, Try.prog.info? 34 = some j ∧ j.size = 2 := Option.map_eq_some_iff.1 (by kernel_rfl : (Try.prog.info? 34).map (·.size) = some 2)
theorem lies34 : liesAt Try.prog Try.prog.depth 38 (8 / Try.prog.cellsOf 38) 0 34 1 = true := by kernel_rfl

theorem copyCheck_used (b : Nat) (w : World) (h0 : w.cell? ⟨b, 0, none⟩ = some (.pointer (some ⟨b, 0, none⟩))) :
    Calls Try.prog 14 #[.pointer (some ⟨b, 0, none⟩)] w fun e w' => e = .returned (.tuple #[]) ∧ w = w' := by
  obtain ⟨j, hj, _⟩ := info34
  go_enter Try.func14, Try.ntmps14
  go_wp2
  rw [Lib.run_neq_ptr_same w _ Try.underlying31 hj]
  go_wp2
  go_end0
  exact ⟨rfl, rfl⟩

theorem copyCheck_fresh (b : Nat) (w : World) (h0 : w.cell? ⟨b, 0, none⟩ = some (.pointer none)) (hsh : w.shape? b = some (38, 8)) (hfz : w.frozen? ⟨b, 0, none⟩ = false) :
    Calls Try.prog 14 #[.pointer (some ⟨b, 0, none⟩)] w fun e w' => e = .returned (.tuple #[]) ∧ w' = w.setCell ⟨b, 0, none⟩ (.pointer (some ⟨b, 0, none⟩)) := by
  obtain ⟨j, hj, hjs⟩ := info34
  go_enter Try.func14, Try.ntmps14
  go_wp2
  rw [Lib.run_to_unsafe w ⟨b, 0, none⟩ Try.underlying31 Try.underlying45 hj (by rw [hjs]; decide) hsh (Nat.zero_lt_succ 7)]
  simp only [Result.andThen]
  rw [Oper.upon_value]
  go_wp2
  rw [run_callFunc_extern Try.func15 (by kernel_rfl) (by kernel_rfl) (by kernel_rfl) (e := Extern.AbiNoEscape.same) (by kernel_rfl)]
  rw [Lib.run_noEscape]
  simp only [Result.andThen]
  rw [Oper.upon_value]
  go_wp2
  rw [Lib.run_from_unsafe w ⟨b, 0, none⟩ Try.underlying45 Try.underlying31 hj hsh lies34]
  simp only [Result.andThen]
  rw [Oper.upon_value]
  go_wp2
  go_end0
  exact ⟨rfl, rfl⟩

/-- 'addr' behind copyCheck: the builder's own address. -/
theorem BAt.used {B U b : Nat} {p : Value} {l : List UInt8} {t : List Value} {w : World} (h : BAt B U b p l t w) (q : Value) : BAt B U b q l t (w.setCell ⟨b, 0, none⟩ q) := by
  obtain ⟨a1, a2, a3, a4, v, a5, a6, a7, a8⟩ := h
  refine ⟨a1, a2, by simpa [World.setCell] using a3, a4, v, ?_, ?_, a7, a8⟩
  · simp [World.setCell, Array.getElem?_modify, a5]
  · exact a6.kept (row := some b) ⟨rfl, rfl, rfl, by simp [World.setCell], fun k _ hk => Below.heap_setCell _ _ _ _ (fun e => hk (by simp [e]))⟩ (Or.inr a7)

theorem copyCheck_any (B U b : Nat) (p : Value) (l : List UInt8) (t : List Value) (w : World) (h : BAt B U b p l t w) (hp : p = .pointer none ∨ p = .pointer (some ⟨b, 0, none⟩)) :
    Calls Try.prog 14 #[.pointer (some ⟨b, 0, none⟩)] w fun e w' => e = .returned (.tuple #[]) ∧ BAt B U b (.pointer (some ⟨b, 0, none⟩)) l t w' ∧ Below B w w' := by
  rcases hp with rfl | rfl
  · refine (copyCheck_fresh b w h.cell0 h.shape (h.frozen 0)).mono ?_
    rintro e w' ⟨rfl, rfl⟩
    exact ⟨rfl, h.used _, (Below.refl B w).setCell (p := ⟨b, 0, none⟩) h.1 _⟩
  · refine (copyCheck_used b w h.cell0).mono ?_
    rintro e w' ⟨rfl, rfl⟩
    exact ⟨rfl, h, Below.refl B _⟩

theorem Try.info5 : (Try.prog.info? 5).map (fun i => (i.zero, i.size, i.bytes)) = some (some (.int .u8 0), 1, 1) := by kernel_rfl

set_option maxHeartbeats 1000000 in
set_option maxRecDepth 100000 in
theorem writeString_any (B U b : Nat) (p : Value) (l : List UInt8) (t : List Value) (s : ByteArray) (w : World) (h : BAt B U b p l t w) (hp : p = .pointer none ∨ p = .pointer (some ⟨b, 0, none⟩)) (hlen : l.length + s.size ≤ 140737488355328) (hBw : B ≤ w.heap.size) :
    Calls Try.prog 11 #[.pointer (some ⟨b, 0, none⟩), .string s] w fun e w' => e = .returned (.tuple #[.int .i64 s.size, .nilIface]) ∧ BAt B w'.heap.size b (.pointer (some ⟨b, 0, none⟩)) (l ++ s.data.toList) t w' ∧ Below B w w' := by
  obtain ⟨i0, hi, hz0, hz1, hz2⟩ := info_parts Try.info5
  go_enter Try.func11, Try.ntmps11
  go_wp2_with (go_at_call 14; refine (copyCheck_any B U b p l t _ h hp).mono ?_)
  rintro e w1 ⟨rfl, h1, hb1⟩
  obtain ⟨hB, hbU, hUw, ht, v, hbk, hown, hne, hvU⟩ := h1
  have c1 : w1.cell? ⟨b, 1, none⟩ = some v := by rw [Lib.cell_of_heap hbk]; rfl
  go_wp2_with (at_builtin; refine Lib.wpList_append_own_stringF _ rfl _ _ 32 9 rfl B 5 i0 Try.underlying32 Try.underlying9 hi hz0 hz1 hz2 _ _ _ rfl hown s rfl ?c3 ?c4 ?c5 ?_)
  case c3 => unfold maxLen; omega
  case c4 => omega
  case c5 => have := hb1.size; omega
  intro v' w2 hown' hgrow _
  have hlt : b < w1.heap.size := by omega
  have hb2 : w2.heap[b]? = some (.cells ((.pointer (some ⟨b, 0, none⟩)) :: v :: t).toArray 38 (0, 0)) := by
    rw [hgrow.block b hlt (fun e => hne e.symm)]
    exact hbk
  have d1 : w2.cell? ⟨b, 1, none⟩ = some v := by rw [Lib.cell_of_heap hb2]; rfl
  have f1 : w2.frozen? ⟨b, 1, none⟩ = false := Lib.frozen_of_heap hb2 1
  obtain ⟨ao, n', cap, rfl⟩ : ∃ ao n' cap, v' = .slice ao n' cap := by
    rcases hown'.2 with ⟨hv, _⟩ | ⟨g, cap, cur, fz, hv, _⟩
    · exact ⟨_, _, _, hv⟩
    · exact ⟨_, _, _, hv⟩
  go_wp2
  go_ret2
  refine ⟨rfl, ?_, ?_⟩
  · have hne' := Lib.ownBlock_neF hown' hb2 (by decide)
    have hlt' := hown'.lt
    have hsz := hgrow.size
    refine ⟨hB, by simp [World.setCell]; omega, Nat.le_refl _, ht, .slice ao n' cap, ?_, ?_, hne', ?_⟩
    · simp [World.setCell, Array.getElem?_modify, hb2]
    · rw [Lib.byteCells_append, List.length_append, ← Lib.strCells_eq]
      have e1 : s.data.toList.length = s.size := by rw [Array.length_toList]; rfl
      rw [e1]
      exact hown'.kept (row := some b) ⟨rfl, rfl, rfl, by simp [World.setCell], fun k _ hk => Below.heap_setCell _ _ _ _ (fun e => hk (by simp [e]))⟩ (Or.inr hne')
    · intro g hg
      have := (hlt' g hg).2
      simpa [World.setCell] using this
  · exact (hb1.grown hgrow (by have := hb1.size; omega) (fun k hk => (hown.lt k hk).1)).setCell (p := ⟨b, 1, none⟩) hB _

theorem reset_any (B U b : Nat) (p : Value) (l : List UInt8) (t : List Value) (w : World) (h : BAt B U b p l t w) :
    Calls Try.prog 13 #[.pointer (some ⟨b, 0, none⟩)] w fun e w' => e = .returned (.tuple #[]) ∧ BAt B U b (.pointer none) [] t w' ∧ Below B w w' := by
  obtain ⟨hB, hbU, hUw, ht, v, hbk, hown, hne, hvU⟩ := h
  have c0 : w.cell? ⟨b, 0, none⟩ = some p := by rw [Lib.cell_of_heap hbk]; rfl
  have c1 : w.cell? ⟨b, 1, none⟩ = some v := by rw [Lib.cell_of_heap hbk]; rfl
  have f0 : w.frozen? ⟨b, 0, none⟩ = false := Lib.frozen_of_heap hbk 0
  have f1 : w.frozen? ⟨b, 1, none⟩ = false := Lib.frozen_of_heap hbk 1
  go_enter Try.func13, Try.ntmps13
  go_wp2
  go_end0
  refine ⟨rfl, ⟨hB, hbU, by simpa [World.setCell] using hUw, ht, .slice none 0 0, ?_, World.ownsRowF_nil _ _ _ _, by simp [Value.ownBlock], by simp [Value.ownBlock]⟩, ?_⟩
  · simp [World.setCell, Array.getElem?_modify, hbk]
  · exact ((Below.refl B w).setCell (p := ⟨b, 0, none⟩) hB _).setCell (p := ⟨b, 1, none⟩) hB _

/-- From U on nothing that was there has turned. -/
def Same (U : Nat) (w w' : World) : Prop := ∀ k, U ≤ k → k < w.heap.size → w'.heap[k]? = w.heap[k]?

theorem BAt.same {B U b V : Nat} {p : Value} {l : List UInt8} {t : List Value} {w w' : World} (h : BAt B U b p l t w) (hs : Same V w w') (hV : V ≤ B) (hsz : w.heap.size ≤ w'.heap.size) : BAt B U b p l t w' :=
  h.kept (fun k hk hk' => hs k (by omega) (by have := h.2.2.1; omega)) (by have := h.2.2.1; omega)

theorem BAt.drew {B U b : Nat} {p : Value} {l : List UInt8} {t : List Value} {w : World} (h : BAt B U b p l t w) : BAt B U b p l t w.drew := h

theorem BAt.drewN {B U b : Nat} {p : Value} {l : List UInt8} {t : List Value} {w : World} (h : BAt B U b p l t w) (n : Nat) : BAt B U b p l t (w.drewN n) := h

theorem heap_freeze (w : World) (g n k : Nat) (hk : k ≠ g) : (w.freeze ⟨g, 0, none⟩ n).heap[k]? = w.heap[k]? := by
  unfold World.freeze
  split
  · rfl
  · simp only [Array.getElem?_modify]
    rw [if_neg (fun e => hk e.symm)]

/-- What 'String()' leaves: all the bytes that the builder holds are frozen; it is a builder still. -/
theorem BAt.froze {B U b g cap : Nat} {p : Value} {l : List UInt8} {t : List Value} {w : World} (h : BAt B U b p l t w) (hc : w.cell? ⟨b, 1, none⟩ = some (.slice (some ⟨g, 0, none⟩) l.length cap)) :
    BAt B U b p l t (w.freeze ⟨g, 0, none⟩ l.length) := by
  obtain ⟨hB, hbU, hUw, ht, v, hb, hown, hne, hvU⟩ := h
  have hv : v = .slice (some ⟨g, 0, none⟩) l.length cap := by
    rw [Lib.cell_of_heap hb] at hc
    simpa using hc
  subst hv
  have hgb : g ≠ b := fun e => hne (by simp [Value.ownBlock, e])
  have hsz : (w.freeze ⟨g, 0, none⟩ l.length).heap.size = w.heap.size := by unfold World.freeze; split <;> simp
  refine ⟨hB, hbU, by rw [hsz]; exact hUw, ht, _, ?_, ⟨hown.1, ?_⟩, hne, hvU⟩
  · rw [heap_freeze _ _ _ _ (fun e => hgb e.symm)]; exact hb
  · unfold World.freeze
    split
    · exact hown.2
    · rcases hown.2 with ⟨hv, _⟩ | ⟨g', cap', cur, fz, hv, hbg, hg, hfz, rest⟩
      · cases hv
      · injection hv with ha _ hcap
        injection ha with ha
        injection ha with hgg _ _
        subst hgg
        subst hcap
        obtain ⟨lo, hi⟩ := fz
        refine .inr ⟨g, _, cur, (if lo == hi then (0, 0 + l.length) else (min lo 0, max hi (0 + l.length))), rfl, hbg, ?_, ?_, rest⟩
        · simp [Array.getElem?_modify, hg]
        · simp only at hfz
          split <;> simp <;> omega

theorem Try.cells5 : Try.prog.cellsOf 5 = 1 := by kernel_rfl

set_option maxHeartbeats 1000000 in
set_option maxRecDepth 100000 in
theorem string_full (B U b : Nat) (p : Value) (l : List UInt8) (t : List Value) (w : World) (h : BAt B U b p l t w) (h0 : l ≠ []) :
    Calls Try.prog 12 #[.pointer (some ⟨b, 0, none⟩)] w fun e w' => e = .returned (.string ⟨l.toArray⟩) ∧ BAt B U b p l t w' ∧ Below B w w' ∧ Same U w w' := by
  have hk := h
  obtain ⟨hB, hbU, hUw, ht, v, hbk, hown, hne, hvU⟩ := h
  have hl0 : l.length ≠ 0 := by simpa using h0
  obtain ⟨g, cap, cur, fz, rfl, hbg, hg, hfz, hnc, hcm, hcs, htake⟩ : ∃ g cap cur fz, v = .slice (some ⟨g, 0, none⟩) l.length cap ∧ B ≤ g ∧ w.heap[g]? = some (.cells cur 5 fz) ∧ fz.2 ≤ l.length * 1 ∧ l.length ≤ cap ∧ cap ≤ maxLen ∧ cur.size = cap * 1 ∧ cur.toList.take (l.length * 1) = Lib.byteCells l := by
    rcases hown.2 with ⟨_, hz⟩ | ⟨g, cap, cur, fz, hv, r⟩
    · exact absurd hz hl0
    · exact ⟨g, cap, cur, fz, hv, r⟩
  have c1 : w.drew.cell? ⟨b, 1, none⟩ = some (.slice (some ⟨g, 0, none⟩) l.length cap) := by
    have : w.drew.heap[b]? = some (.cells (p :: (.slice (some ⟨g, 0, none⟩) l.length cap) :: t).toArray 38 (0, 0)) := hbk
    rw [Lib.cell_of_heap this]; rfl
  have hSD : (Builtin.unsafeSliceData_ #[32] 44 #[.slice (some ⟨g, 0, none⟩) l.length cap]).run Try.prog w.drew = .ok (.pointer (some ⟨g, 0, none⟩)) w.drew :=
    Lib.run_unsafeSliceData_row _ _ _ _ _ _ (by omega)
  have hUS : (Builtin.unsafeString_ #[44, 3] 9 #[.pointer (some ⟨g, 0, none⟩), .int .i64 l.length]).run Try.prog w.drew = .ok (.string ⟨l.toArray⟩) (w.drew.freeze ⟨g, 0, none⟩ l.length) := by
    refine Lib.run_unsafeString_row w.drew 44 3 9 5 Try.underlying44 Try.cells5 g cur.size (by have hg' : w.drew.heap[g]? = some (.cells cur 5 fz) := hg; simp [World.shape?, hg']) l h0 (by omega) (by unfold maxLen at hcm; omega) ?_
    intro j x hx
    have := hown.cells (g := g) rfl j (.int .u8 x.toNat) (by simp [Lib.byteCells, hx])
    exact this
  have hkeep : BAt B U b p l t (w.drew.freeze ⟨g, 0, none⟩ l.length) := BAt.froze (w := w.drew) hk c1
  have hgU : g < U := hvU g rfl
  have hsame : Same U w (w.drew.freeze ⟨g, 0, none⟩ l.length) := fun k hk1 _ => heap_freeze w.drew g _ k (by omega)
  go_enter Try.func12, Try.ntmps12
  go_wp2
  go_region
  all_goals (go_wp2; go_ret; exact ⟨rfl, hkeep, Lib.below_freeze (Below.drew (Below.refl B w)) (p := ⟨g, 0, none⟩) hbg _, hsame⟩)

theorem us_none (W : World) (q : Option Addr) : (Builtin.unsafeString_ #[44, 3] 9 #[.pointer q, .int .i64 0]).run Try.prog W = .ok (.string .empty) W := Lib.run_unsafeString_none W _ _ _ q

set_option maxHeartbeats 1000000 in
set_option maxRecDepth 100000 in
theorem string_nil (B U b : Nat) (p : Value) (t : List Value) (w : World) (h : BAt B U b p [] t w) (hbk : w.heap[b]? = some (.cells (p :: (.slice none 0 0) :: t).toArray 38 (0, 0))) :
    Calls Try.prog 12 #[.pointer (some ⟨b, 0, none⟩)] w fun e w' => e = .returned (.string ⟨#[]⟩) ∧ BAt B U b p [] t w' ∧ Below B w w' ∧ Same U w w' := by
  have hUS := us_none
  have c1 : w.drew.cell? ⟨b, 1, none⟩ = some (.slice none 0 0) := by
    have : w.drew.heap[b]? = some (.cells (p :: (.slice none 0 0) :: t).toArray 38 (0, 0)) := hbk
    rw [Lib.cell_of_heap this]; rfl
  have hSD : (Builtin.unsafeSliceData_ #[32] 44 #[.slice none 0 0]).run Try.prog w.drew = .ok (.pointer none) w.drew := rfl
  go_enter Try.func12, Try.ntmps12
  go_wp2
  go_region
  all_goals (go_wp2; go_ret; exact ⟨rfl, h.drew, Below.drew (Below.refl B w), fun _ _ _ => rfl⟩)

set_option maxHeartbeats 1000000 in
set_option maxRecDepth 100000 in
theorem string_room (B U b g cap : Nat) (p : Value) (t : List Value) (w : World) (hc0 : cap ≠ 0) (h : BAt B U b p [] t w) (hbk : w.heap[b]? = some (.cells (p :: (.slice (some ⟨g, 0, none⟩) 0 cap) :: t).toArray 38 (0, 0))) :
    Calls Try.prog 12 #[.pointer (some ⟨b, 0, none⟩)] w fun e w' => e = .returned (.string ⟨#[]⟩) ∧ BAt B U b p [] t w' ∧ Below B w w' ∧ Same U w w' := by
  have hUS := us_none
  have c1 : w.drew.cell? ⟨b, 1, none⟩ = some (.slice (some ⟨g, 0, none⟩) 0 cap) := by
    have : w.drew.heap[b]? = some (.cells (p :: (.slice (some ⟨g, 0, none⟩) 0 cap) :: t).toArray 38 (0, 0)) := hbk
    rw [Lib.cell_of_heap this]; rfl
  have hSD : (Builtin.unsafeSliceData_ #[32] 44 #[.slice (some ⟨g, 0, none⟩) 0 cap]).run Try.prog w.drew = .ok (.pointer (some ⟨g, 0, none⟩)) w.drew :=
    Lib.run_unsafeSliceData_row _ _ _ _ _ _ hc0
  clear hc0
  go_enter Try.func12, Try.ntmps12
  go_wp2
  go_region
  all_goals (go_wp2; go_ret; exact ⟨rfl, h.drew, Below.drew (Below.refl B w), fun _ _ _ => rfl⟩)

set_option maxHeartbeats 1000000 in
set_option maxRecDepth 100000 in
theorem string_noroom (B U b g : Nat) (p : Value) (t : List Value) (cur : Array Value) (fz : Nat × Nat) (w : World) (hBw : B ≤ w.heap.size) (h : BAt B U b p [] t w) (hbk : w.heap[b]? = some (.cells (p :: (.slice (some ⟨g, 0, none⟩) 0 0) :: t).toArray 38 (0, 0)))
    (hg : w.heap[g]? = some (.cells cur 5 fz)) :
    Calls Try.prog 12 #[.pointer (some ⟨b, 0, none⟩)] w fun e w' => e = .returned (.string ⟨#[]⟩) ∧ BAt B U b p [] t w' ∧ Below B w w' ∧ Same U w w' := by
  have hUS := us_none
  have hlt : b < w.heap.size := by have := h.2.1; have := h.2.2.1; omega
  have c1 : w.drew.cell? ⟨b, 1, none⟩ = some (.slice (some ⟨g, 0, none⟩) 0 0) := by
    have : w.drew.heap[b]? = some (.cells (p :: (.slice (some ⟨g, 0, none⟩) 0 0) :: t).toArray 38 (0, 0)) := hbk
    rw [Lib.cell_of_heap this]; rfl
  have hSD : (Builtin.unsafeSliceData_ #[32] 44 #[.slice (some ⟨g, 0, none⟩) 0 0]).run Try.prog w.drew = .ok (.pointer (some ⟨w.drew.heap.size, 0, none⟩)) (w.drew.alloc (.view ⟨g, 0, none⟩ 5)) :=
    Lib.run_unsafeSliceData_zero w.drew _ _ 5 Try.underlying44 ⟨g, 0, none⟩ 0 (5, cur.size) (by have hg' : w.drew.heap[g]? = some (.cells cur 5 fz) := hg; simp [World.shape?, hg'])
  have c2 : (w.drew.alloc (.view ⟨g, 0, none⟩ 5)).cell? ⟨b, 1, none⟩ = some (.slice (some ⟨g, 0, none⟩) 0 0) := by
    have : (w.drew.alloc (.view ⟨g, 0, none⟩ 5)).heap[b]? = _ := (Lib.alloc_old w.drew _ b hlt).trans hbk
    rw [Lib.cell_of_heap this]; rfl
  have c3 : (w.alloc (.view ⟨g, 0, none⟩ 5)).drew.cell? ⟨b, 1, none⟩ = some (.slice (some ⟨g, 0, none⟩) 0 0) := c2
  have c0 : w.cell? ⟨b, 1, none⟩ = some (.slice (some ⟨g, 0, none⟩) 0 0) := c1
  have hbl : Below w.heap.size w (w.drew.alloc (.view ⟨g, 0, none⟩ 5)) := (Below.drew (Below.refl _ w)).alloc (Nat.le_refl _) _
  have hfin : BAt B U b p [] t (w.drew.alloc (.view ⟨g, 0, none⟩ 5)) ∧ Below B w (w.drew.alloc (.view ⟨g, 0, none⟩ 5)) ∧ Same U w (w.drew.alloc (.view ⟨g, 0, none⟩ 5)) :=
    ⟨h.below (hbl.mono h.2.2.1), hbl.mono hBw, fun k _ hk => hbl.block k hk⟩
  go_enter Try.func12, Try.ntmps12
  go_wp2
  go_region
  all_goals (go_wp2; go_ret; exact ⟨rfl, hfin.1, hfin.2.1, hfin.2.2⟩)

/-- '(*strings.Builder).String', whatever it holds. -/
theorem string_any (B U b : Nat) (p : Value) (l : List UInt8) (t : List Value) (w : World) (h : BAt B U b p l t w) (hBw : B ≤ w.heap.size) :
    Calls Try.prog 12 #[.pointer (some ⟨b, 0, none⟩)] w fun e w' => e = .returned (.string ⟨l.toArray⟩) ∧ BAt B U b p l t w' ∧ Below B w w' ∧ Same U w w' := by
  cases l with
  | cons x r => exact string_full B U b p (x :: r) t w h (by simp)
  | nil =>
    have hk := h
    obtain ⟨hB, hbU, hUw, ht, v, hbk, hown, hne, hvU⟩ := h
    rcases hown.2 with ⟨rfl, _⟩ | ⟨g, cap, cur, fz, rfl, hbg, hg, _⟩
    · exact string_nil B U b p t w hk hbk
    · by_cases hc0 : cap = 0
      · subst hc0
        exact string_noroom B U b g p t cur fz w hBw hk hbk hg
      · exact string_room B U b g cap p t w hc0 hk hbk

end Go.Proofs.Qxb6629267a
