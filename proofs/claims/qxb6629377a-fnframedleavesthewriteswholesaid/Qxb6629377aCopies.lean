/-
  DERIVED. Seat b6629377a: the contracts of zzCopyBytes, zzRoomyCopy, zzCopyInts, zzSameBytes.
-/
import Derived.Test.Qxb6629377aBase
namespace Go.Proofs.Qxb6629377a
open Go.RowKit

theorem Try.size5 : (Try.prog.info? 5).map (·.size) = some 1 := by kernel_rfl
theorem Try.size3 : (Try.prog.info? 3).map (·.size) = some 1 := by kernel_rfl

theorem splice_zero {l cs : List Value} (n : Nat) (h : cs.length = n) (hl : n ≤ l.length) : (splice l 0 cs).take n = cs := by
  subst h
  simp [splice]

theorem grown_new {w w' w'' : World} (h1 : w.grownBy w' none) (h2 : w'.grownBy w'' (some w.heap.size)) : Below w.heap.size w w'' :=
  ((Below.refl w.heap.size w).grown h1 (Nat.le_refl _) (fun k hk => by cases hk)).grown h2 h1.size (fun k hk => by cases hk; exact Nat.le_refl _)

/-- What a copy left at the head of a new row. -/
theorem own_copied {w w2 : World} {m : Nat} {l : List UInt8} {z : Value} (hg : w2.heap[w.heap.size]? = some (.cells (splice (madeCells #[z] m).toList 0 (Lib.byteCells l)).toArray 5 (0, 0))) (hm : l.length ≤ m) (hml : m ≤ maxLen) :
    Own w.heap.size w2 (.slice (some ⟨w.heap.size, 0, none⟩) l.length m) l := by
  refine ⟨by rw [Lib.byteCells_length, Nat.mul_one], .inr ⟨w.heap.size, m, _, rfl, Nat.le_refl _, hg, hm, hml, ?_, ?_⟩⟩
  · have := size_madeCells #[z] m
    simp [splice, Lib.byteCells_length, this]
    omega
  · simp [splice, Lib.byteCells_length]

set_option maxHeartbeats 800000 in
theorem copyBytes_any (A : Option Addr) (C : Nat) (l : List UInt8) (w : World) (hw : WordAt w.heap.size w A C l) (hlim : l.length ≤ 140737488355328) :
    Calls Try.prog 9 #[.slice A l.length C] w fun e w' => ∃ v, e = .returned v ∧ Own w.heap.size w' v l ∧ Below w.heap.size w w' := by
  have hnl := fun w a n c => Lib.run_eql_slice_nil (P := Try.prog) w 22 5 a n c 0 0 Try.underlying22
  obtain ⟨i0, hi0, hz0, hz1, hz2⟩ := info_parts Try.info5
  have HW : Hid (WordAt w.heap.size w A C l) := hw
  obtain ⟨h1, b, off, h2, h3⟩ := hw
  cases A with
  | none =>
    obtain ⟨rfl, rfl⟩ := h1 rfl
    clear h1 h2 h3 HW
    go_enter Try.func9, Try.ntmps9
    go_wp2
    go_ret
    exact ⟨_, rfl, World.ownsRow_nil _ _ _ _, Below.refl _ _⟩
  | some ad =>
    have hmkb : i0.bytes * l.length ≤ 281474976710656 := by rw [hz2]; omega
    clear h1 h2 h3
    go_enter Try.func9, Try.ntmps9
    go_wp2_with (first
      | (at_make; refine wpList_make_room _ rfl _ _ 22 rfl 5 i0 (.int .u8 0) 1 Try.underlying22 hi0 hz0 hz1 .i64 .i64 _ _ l.length l.length rfl rfl rfl rfl (Nat.le_refl _) hmkb (by unfold maxLen; omega) ?_)
      | (refine wpList_copy_at rfl (.tmp 9) (.tmp 10) 22 rfl 5 Try.underlying22 Try.size5 _ _ _ _ _ _ rfl rfl w.heap.size 0 _ 5 (heap_alloc_new w _) (Lib.byteCells l) (by simp [Lib.byteCells_length]) (fun _ => ⟨rfl, ad, rfl, word_src (HW.out.on ((Below.refl _ _).alloc (Nat.le_refl _) _) (Nat.le_refl _)) rfl⟩) (by simp [Lib.byteCells_length, size_madeCells]) (byte_one l) ?_; intro w2 hg2 hgr2))
    go_ret
    exact ⟨_, rfl, own_copied hg2.out (Nat.le_refl _) (by unfold maxLen; omega), grown_new (World.grownBy_alloc w _ none) hgr2⟩

set_option maxHeartbeats 800000 in
theorem roomy_any (A : Option Addr) (C : Nat) (l : List UInt8) (r : Nat) (w : World) (hw : WordAt w.heap.size w A C l) (hlim : l.length ≤ 1048576) (hr : r ≤ 65536) :
    Calls Try.prog 6 #[.slice A l.length C, .int .i64 r] w fun e w' => ∃ v, e = .returned v ∧ Own w.heap.size w' v l ∧ Below w.heap.size w w' := by
  have hnl := fun w a n c => Lib.run_eql_slice_nil (P := Try.prog) w 22 5 a n c 0 0 Try.underlying22
  obtain ⟨i0, hi0, hz0, hz1, hz2⟩ := info_parts Try.info5
  have HW : Hid (WordAt w.heap.size w A C l) := hw
  obtain ⟨h1, b, off, h2, h3⟩ := hw
  have hmkb : i0.bytes * (l.length + r) ≤ 281474976710656 := by rw [hz2]; omega
  by_cases h0 : A = none ∧ r = 0
  · obtain ⟨rfl, rfl⟩ := h0
    obtain ⟨rfl, rfl⟩ := h1 rfl
    clear h1 h2 h3 HW hmkb
    go_enter Try.func6, Try.ntmps6
    go_wp2
    go_ret
    exact ⟨_, rfl, World.ownsRow_nil _ _ _ _, Below.refl _ _⟩
  · by_cases hA : A = none
    · subst hA
      have hd0 : ((r : Int) == 0) = false := beq_false_of_ne (by simp at h0; omega)
      obtain ⟨rfl, rfl⟩ := h1 rfl
      clear h1 h2 h3
      go_enter Try.func6, Try.ntmps6
      go_wp2_with (first
        | (at_make; refine wpList_make_room _ rfl _ _ 22 rfl 5 i0 (.int .u8 0) 1 Try.underlying22 hi0 hz0 hz1 .i64 .i64 _ _ 0 (0 + r) rfl rfl rfl (by omega) (Nat.le_add_right _ _) hmkb (by unfold maxLen; omega) ?_)
        | (refine wpList_copy_at rfl (.tmp 19) (.tmp 20) 22 rfl 5 Try.underlying22 Try.size5 _ _ _ _ _ _ rfl rfl w.heap.size 0 _ 5 (heap_alloc_new w _) (Lib.byteCells []) (by simp [Lib.byteCells]) (fun h => absurd h (by simp [Lib.byteCells])) (by simp [Lib.byteCells]) (byte_one []) ?_; intro w2 hg2 hgr2))
      go_ret
      exact ⟨_, rfl, own_copied (l := []) (m := r) (by simpa using hg2.out) (Nat.zero_le _) (by unfold maxLen; omega), grown_new (World.grownBy_alloc w _ none) hgr2⟩
    obtain ⟨ad, rfl⟩ := Option.ne_none_iff_exists'.1 hA
    clear h1 h2 h3 hA h0
    go_enter Try.func6, Try.ntmps6
    go_wp2_with (first
      | (at_make; refine wpList_make_room _ rfl _ _ 22 rfl 5 i0 (.int .u8 0) 1 Try.underlying22 hi0 hz0 hz1 .i64 .i64 _ _ l.length (l.length + r) rfl rfl rfl (by omega) (Nat.le_add_right _ _) hmkb (by unfold maxLen; omega) ?_)
      | (refine wpList_copy_at rfl (.tmp 19) (.tmp 20) 22 rfl 5 Try.underlying22 Try.size5 _ _ _ _ _ _ rfl rfl w.heap.size 0 _ 5 (heap_alloc_new w _) (Lib.byteCells l) (by simp [Lib.byteCells_length]) (fun _ => ⟨rfl, ad, rfl, word_src (HW.out.on ((Below.refl _ _).alloc (Nat.le_refl _) _) (Nat.le_refl _)) rfl⟩) (by simp [Lib.byteCells_length, size_madeCells]) (byte_one l) ?_; intro w2 hg2 hgr2))
    go_ret
    refine ⟨_, rfl, own_copied hg2.out (Nat.le_add_right _ _) (by unfold maxLen; omega), ?_⟩
    exact grown_new (World.grownBy_alloc w _ none) hgr2

set_option maxHeartbeats 800000 in
/-- 'zzSameBytes' of two slices that hold the same bytes. -/
theorem same_any (B1 B2 : Nat) (A1 A2 : Option Addr) (c1 c2 : Nat) (l : List UInt8) (w : World) (hl : l.length ≤ 140737488355328) (h1 : WordAt B1 w A1 c1 l) (h2 : WordAt B2 w A2 c2 l) :
    Calls Try.prog 15 #[.slice A1 l.length c1, .slice A2 l.length c2] w fun e w' => e = .returned (.bool true) ∧ ∃ q, w' = w.drewN q := by
  obtain ⟨_, b1, o1, hA1, hc1⟩ := h1
  obtain ⟨_, b2, o2, hA2, hc2⟩ := h2
  go_enter Try.func15, Try.ntmps15
  go_wp2_with fail
  go_loopw [5] (fun i wr => ∃ j q : Nat, j ≤ l.length ∧ i = .int .i64 j ∧ wr = w.drewN q) (fun i _ => l.length - (intOf i).toNat)
  case atStart => exact ⟨0, 0, Nat.zero_le _, rfl, rfl⟩
  case round =>
    obtain ⟨j, q, hj, rfl, rfl⟩ := hrel
    by_cases hlt : j < l.length
    · obtain ⟨rfl, _⟩ := hA1 (by omega)
      obtain ⟨rfl, _⟩ := hA2 (by omega)
      have e1 := hc1 j hlt
      have e2 := hc2 j hlt
      obtain ⟨y, hy⟩ : ∃ y, y = (l.getD j 0).toNat := ⟨_, rfl⟩
      rw [← hy] at e1 e2
      clear hy hc1 hc2 hA1 hA2
      have bj : (j : Int) < (l.length : Int) := by omega
      go_wp2_with fail
      go_quiet (fail)
      go_wp2
      go_roundw
      case rel => exact ⟨j + 1, _, by omega, by go_num, rfl⟩
      case measure => simp [intOf]; omega
    · go_wp2
      go_ret
      exact ⟨rfl, _, rfl⟩

/-- The slice value v owns the numbers zs. -/
def intCells (zs : List Int) : List Value := zs.map fun z => .int .i64 z
theorem intCells_length (zs : List Int) : (intCells zs).length = zs.length := by simp [intCells]

theorem ints_src {B : Nat} {w : World} {A : Option Addr} {zs : List Int} {ad : Addr} (h : IntsAt B w A zs) (hA : A = some ad) : ∀ j u, (intCells zs)[j]? = some u → w.cell? (ad.add j) = some u := by
  obtain ⟨_, b, off, h2, h3⟩ := h
  intro j u hu
  have hj : j < zs.length := by
    have := (List.getElem?_eq_some_iff.1 hu).1
    rwa [intCells_length] at this
  obtain ⟨e1, _⟩ := h2 (by omega)
  rw [hA] at e1
  injection e1 with e1
  subst e1
  have hadd : (⟨b, off, none⟩ : Addr).add j = ⟨b, off + j, none⟩ := by unfold Addr.add; split <;> simp_all
  rw [hadd, h3 j hj]
  simp only [intCells, List.getElem?_map, List.getElem?_eq_getElem hj, Option.map_some, Option.some.injEq] at hu
  rw [← hu, List.getD, List.getElem?_eq_getElem hj]
  rfl

theorem int_one (zs : List Int) : ∀ u ∈ intCells zs, u.oneCell' = true := by
  intro u hu
  simp only [intCells, List.mem_map] at hu
  obtain ⟨y, _, rfl⟩ := hu
  rfl

/-- A slice value that holds the numbers zs. -/
def IntsOwn (w : World) (v : Value) (zs : List Int) : Prop := ∃ A C, v = .slice A zs.length C ∧ IntsAt w.heap.size w A zs

set_option maxHeartbeats 800000 in
theorem copyInts_any (A : Option Addr) (C : Nat) (zs : List Int) (w : World) (hw : IntsAt w.heap.size w A zs) (hlim : zs.length ≤ 1048576) (hC : A = none → C = 0) :
    Calls Try.prog 7 #[.slice A zs.length C] w fun e w' => ∃ v, e = .returned v ∧ IntsOwn w' v zs ∧ Below w.heap.size w w' := by
  have hnl := fun w a n c => Lib.run_eql_slice_nil (P := Try.prog) w 23 3 a n c 0 0 Try.underlying23
  obtain ⟨i0, hi0, hz0, hz1, hz2⟩ := info_parts Try.info3
  have HW : Hid (IntsAt w.heap.size w A zs) := hw
  obtain ⟨h1, b, off, h2, h3⟩ := hw
  cases A with
  | none =>
    obtain rfl := h1 rfl
    obtain rfl := hC rfl
    clear h1 h2 h3 HW
    go_enter Try.func7, Try.ntmps7
    go_wp2
    go_ret
    exact ⟨_, rfl, ⟨_, _, rfl, fun _ => rfl, 0, 0, fun h => absurd h (by simp), fun j hj => absurd hj (by simp)⟩, Below.refl _ _⟩
  | some ad =>
    have hmkb : i0.bytes * zs.length ≤ 281474976710656 := by rw [hz2]; omega
    clear h1 h2 h3 hC
    go_enter Try.func7, Try.ntmps7
    go_wp2_with (first
      | (at_make; refine wpList_make_room _ rfl _ _ 23 rfl 3 i0 (.int .i64 0) 1 Try.underlying23 hi0 hz0 hz1 .i64 .i64 _ _ zs.length zs.length rfl rfl rfl rfl (Nat.le_refl _) hmkb (by unfold maxLen; omega) ?_)
      | (refine wpList_copy_at rfl (.tmp 9) (.tmp 10) 23 rfl 3 Try.underlying23 Try.size3 _ _ _ _ _ _ rfl rfl w.heap.size 0 _ 3 (heap_alloc_new w _) (intCells zs) (by simp [intCells_length]) (fun _ => ⟨rfl, ad, rfl, ints_src (HW.out.on ((Below.refl _ _).alloc (Nat.le_refl _) _) (Nat.le_refl _)) rfl⟩) (by simp [intCells_length, size_madeCells]) (int_one zs) ?_; intro w2 hg2 hgr2))
    go_ret
    have hs2 := hgr2.size
    simp at hs2
    refine ⟨_, rfl, ⟨_, _, rfl, fun h => by (cases h), w.heap.size, 0, fun _ => ⟨rfl, by omega⟩, fun j hj => ?_⟩, grown_new (World.grownBy_alloc w _ none) hgr2⟩
    rw [Lib.cell_of_heap hg2.out]
    have : (intCells zs)[j]? = some (.int .i64 (zs.getD j 0)) := by
      rw [intCells, List.getElem?_map, List.getElem?_eq_getElem hj, List.getD, List.getElem?_eq_getElem hj]
      rfl
    simp [splice]
    rw [List.getElem?_append_left (by rw [intCells_length]; exact hj)]
    exact this

end Go.Proofs.Qxb6629377a
