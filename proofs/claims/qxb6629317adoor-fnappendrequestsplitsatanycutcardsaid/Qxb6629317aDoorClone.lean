/-
  DERIVED. Seat b6629317aD: the contracts of the two zzBytes functions and of zzClone.
-/
import Derived.Test.Qxb6629317aDoorDec
namespace Go.Proofs.Qxb6629317aDoor
open Go.RowKit

/-- The call answers a bool; where it is true, n and the words' bytes are at most 1<<20. -/
def BytesOk (n : Nat) (W : List (List UInt8)) (e : Ending) : Prop := ∃ r, e = .returned (.bool r) ∧ (r = true → n + sumW W W.length ≤ 1048576)

/-- The length of word k, read. -/
theorem WordsAt.word {B : Nat} {w : World} {A : Option Addr} {W : List (List UInt8)} (h : WordsAt B w A W) : ∃ b off, (0 < W.length → A = some ⟨b, off, none⟩ ∧ b < B) ∧ ∀ r, r < W.length → ∃ A' C, w.cell? ⟨b, off + r, none⟩ = some (.slice A' (W.getD r []).length C) := by
  obtain ⟨b, off, h1, h2⟩ := h
  exact ⟨b, off, h1, fun r hr => by obtain ⟨A', C, h3, _⟩ := h2 r hr; exact ⟨A', C, h3⟩⟩

set_option maxHeartbeats 800000 in
theorem bytes5_any (B : Nat) (A0 : Option Addr) (n0 c0 : Nat) (A : Option Addr) (cap : Nat) (W : List (List UInt8)) (w : World) (hn0 : n0 ≤ 140737488355328) (hlen : W.length ≤ 140737488355328) (hW : WordsAt B w A W) :
    Calls Tryd.prog 5 #[.slice A0 n0 c0, .slice A W.length cap] w fun e w' => w = w' ∧ BytesOk (n0 + W.length) W e := by
  obtain ⟨b, off, hA, hr⟩ := hW.word
  clear hW
  go_enter Tryd.func5, Tryd.ntmps5
  go_wp2
  · go_ret
    exact ⟨rfl, ⟨_, rfl, fun h => by cases h⟩⟩
  · go_ret
    exact ⟨rfl, ⟨_, rfl, fun h => by cases h⟩⟩
  · go_ret
    exact ⟨rfl, ⟨_, rfl, fun h => by cases h⟩⟩
  go_loop [5, 6] (fun z i => ∃ (k m : Nat), k ≤ W.length ∧ m ≤ 1048576 ∧ i = .int .i64 k ∧ z = .int .i64 m ∧ m = n0 + W.length + sumW W k) (fun _ i => W.length - (intOf i).toNat)
  case atStart => exact ⟨0, n0 + W.length, Nat.zero_le _, by omega, rfl, by go_num, rfl⟩
  case round =>
    obtain ⟨k, m, hk, hm, rfl, rfl, hme⟩ := hrel
    have HM : Hid (m = n0 + W.length + sumW W k) := hme
    clear hme
    by_cases hlt : k < W.length
    · obtain ⟨rfl, _⟩ := hA (by omega)
      obtain ⟨A', C, hcx⟩ := hr k hlt
      obtain ⟨x, hx⟩ : ∃ x, x = (W.getD k []).length := ⟨_, rfl⟩
      have HS : Hid (sumW W (k + 1) = sumW W k + x) := by rw [hx]; rfl
      rw [← hx] at hcx
      clear hx hr hA
      go_wp2
      · go_ret
        exact ⟨rfl, ⟨_, rfl, fun h => by cases h⟩⟩
      · go_ret
        exact ⟨rfl, ⟨_, rfl, fun h => by cases h⟩⟩
      · go_round
        case rel => exact ⟨k + 1, m + x, by omega, by omega, by go_num, by go_num, by rw [HS.out, HM.out]; omega⟩
        case measure => simp [intOf]; omega
    · obtain rfl : k = W.length := by omega
      go_wp2
      go_ret
      exact ⟨rfl, ⟨_, rfl, fun _ => by have := HM.out; omega⟩⟩

set_option maxHeartbeats 800000 in
theorem bytes9_any (B : Nat) (v : Value) (A : Option Addr) (cap : Nat) (W : List (List UInt8)) (w : World) (hlen : W.length ≤ 140737488355328) (hW : WordsAt B w A W) :
    Calls Tryd.prog 9 #[.slice A W.length cap, v] w fun e w' => w = w' ∧ BytesOk W.length W e := by
  obtain ⟨b, off, hA, hr⟩ := hW.word
  clear hW
  go_enter Tryd.func9, Tryd.ntmps9
  go_wp2
  · go_ret
    exact ⟨rfl, ⟨_, rfl, fun h => by cases h⟩⟩
  go_loop [5, 6] (fun z i => ∃ (k m : Nat), k ≤ W.length ∧ m ≤ 1048576 ∧ i = .int .i64 k ∧ z = .int .i64 m ∧ m = W.length + sumW W k) (fun _ i => W.length - (intOf i).toNat)
  case atStart => exact ⟨0, W.length, Nat.zero_le _, by omega, rfl, by go_num, rfl⟩
  case round =>
    obtain ⟨k, m, hk, hm, rfl, rfl, hme⟩ := hrel
    have HM : Hid (m = W.length + sumW W k) := hme
    clear hme
    by_cases hlt : k < W.length
    · obtain ⟨rfl, _⟩ := hA (by omega)
      obtain ⟨A', C, hcx⟩ := hr k hlt
      obtain ⟨x, hx⟩ : ∃ x, x = (W.getD k []).length := ⟨_, rfl⟩
      have HS : Hid (sumW W (k + 1) = sumW W k + x) := by rw [hx]; rfl
      rw [← hx] at hcx
      clear hx hr hA
      go_wp2
      · go_ret
        exact ⟨rfl, ⟨_, rfl, fun h => by cases h⟩⟩
      · go_ret
        exact ⟨rfl, ⟨_, rfl, fun h => by cases h⟩⟩
      · go_round
        case rel => exact ⟨k + 1, m + x, by omega, by omega, by go_num, by go_num, by rw [HS.out, HM.out]; omega⟩
        case measure => simp [intOf]; omega
    · obtain rfl : k = W.length := by omega
      go_wp2
      go_ret
      exact ⟨rfl, ⟨_, rfl, fun _ => by have := HM.out; omega⟩⟩

theorem cells_full {l : List UInt8} {xs : List Value} (hl : xs.length = l.length) (h : ∀ j, j < l.length → xs[j]? = some (.int .u8 ((l.getD j 0).toNat : Int))) : xs = Lib.byteCells l := by
  apply List.ext_getElem?
  intro j
  by_cases hj : j < l.length
  · rw [h j hj, Lib.byteCells, List.getElem?_map, List.getElem?_eq_getElem hj, List.getD, List.getElem?_eq_getElem hj]
    rfl
  · rw [List.getElem?_eq_none (by omega), List.getElem?_eq_none (by rw [Lib.byteCells_length]; omega)]

set_option maxHeartbeats 800000 in
theorem clone_any (A : Option Addr) (C : Nat) (l : List UInt8) (w : World) (hw : WordAt w.heap.size w A C l) (hlim : l.length ≤ 140737488355328) :
    Calls Tryd.prog 6 #[.slice A l.length C] w fun e w' => ∃ v, e = .returned v ∧ Own w.heap.size w' v l ∧ Below w.heap.size w w' := by
  have hnl := fun w a n c => Lib.run_eql_slice_nil (P := Tryd.prog) w 22 5 a n c 0 0 Tryd.underlying22
  obtain ⟨i0, hi0, hz0, hz1, hz2⟩ := info_parts Tryd.info5
  obtain ⟨h1, b, off, h2, h3⟩ := hw
  cases A with
  | none =>
    obtain ⟨rfl, rfl⟩ := h1 rfl
    clear h1 h2 h3
    go_enter Tryd.func6, Tryd.ntmps6
    go_wp2
    go_ret
    exact ⟨_, rfl, World.ownsRow_nil _ _ _ _, Below.refl _ _⟩
  | some ad =>
    have hmkb : i0.bytes * l.length ≤ 281474976710656 := by rw [hz2]; omega
    clear h1
    go_enter Tryd.func6, Tryd.ntmps6
    go_wp2_with (first
      | (at_make; refine wpList_make_full _ rfl _ _ 22 rfl w.heap.size 5 i0 (.int .u8 0) 1 Tryd.underlying22 hi0 hz0 hz1 .i64 .i64 _ _ l.length rfl rfl rfl rfl hmkb (by unfold maxLen; omega) (Nat.le_refl _) ?_; intro w1 hown1 hgrow1))
    have hb1 : Below w.heap.size w w1 := (Below.refl _ _).grown hgrow1 (Nat.le_refl _) (fun q hq => by cases hq)
    have hxl : (madeCells (Value.int .u8 0).cells (l.length * 1)).toList.length = l.length := by have := hown1.1; rw [Nat.mul_one] at this ⊢; exact this
    go_loopw [4] (fun i wr => ∃ (k : Nat) (xs : List Value), k ≤ l.length ∧ i = .int .i64 k ∧ xs.length = l.length ∧ wr.ownsRow w.heap.size 5 1 (.slice (some ⟨w.heap.size, 0, none⟩) l.length l.length) l.length xs ∧ (∀ j, j < k → xs[j]? = some (.int .u8 ((l.getD j 0).toNat : Int))) ∧ Below w.heap.size w wr)
      (fun i _ => l.length - (intOf i).toNat)
    case atStart => exact ⟨0, _, Nat.zero_le _, rfl, hxl, hown1, fun j hj => absurd hj (by omega), hb1⟩
    case round =>
      clear hown1 hgrow1 hb1 hxl
      obtain ⟨k, xs, hk, rfl, hxs, hown, hdone, hbk⟩ := hrel
      by_cases hlt : k < l.length
      · obtain ⟨e1, hbB⟩ := h2 (by omega)
        injection e1 with e1
        subst e1
        have hc1 : wr.cell? ⟨b, off + k, none⟩ = some (.int .u8 ((l.getD k 0).toNat : Int)) := (hbk.cell (p := ⟨b, off + k, none⟩) hbB).trans (h3 k hlt)
        obtain ⟨y, hy⟩ : ∃ y, y = (l.getD k 0).toNat := ⟨_, rfl⟩
        rw [← hy] at hc1
        have HY : Hid (y = (l.getD k 0).toNat) := hy
        obtain ⟨u, hu⟩ : ∃ u, xs[k]? = some u := ⟨_, List.getElem?_eq_getElem (by omega)⟩
        have hc2 : wr.cell? ⟨w.heap.size, k, none⟩ = some u := by rw [hown.cellAt k (by omega)]; exact hu
        have hf2 : wr.frozen? ⟨w.heap.size, k, none⟩ = false := hown.frozenAt k
        have hst := hown.stored k (.int .u8 (y : Int))
        have hbs := hbk.grown hst.2 hbk.size (fun q hq => by cases hq; exact Nat.le_refl _)
        have HD : Hid (∀ j, j < k → xs[j]? = some (.int .u8 ((l.getD j 0).toNat : Int))) := hdone
        clear hy hdone h2 h3 hu
        go_wp2
        go_roundw
        case rel =>
          refine ⟨k + 1, xs.set k (.int .u8 (y : Int)), by omega, by go_num, by rw [List.length_set]; exact hxs, hst.1, fun j hj => ?_, hbs⟩
          by_cases e : j = k
          · subst e
            rw [List.getElem?_set_self (by omega), HY.out]
          · rw [List.getElem?_set_ne (fun e' => e e'.symm)]
            exact HD.out j (by omega)
        case measure => simp [intOf]; omega
      · obtain rfl : k = l.length := by omega
        have hfull := cells_full hxs hdone
        go_wp2
        go_ret
        exact ⟨_, rfl, own_of hown rfl hfull, hbk⟩

end Go.Proofs.Qxb6629317aDoor
