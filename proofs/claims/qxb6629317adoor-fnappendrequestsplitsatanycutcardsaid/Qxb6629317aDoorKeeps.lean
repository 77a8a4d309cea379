/-
  DERIVED. Seat b6629317aD: the walk of 'FnAppendRequestKeepsDstAndDecodes'.
-/
import Derived.Test.Qxb6629317aDoorClone
namespace Go.Proofs.Qxb6629317aDoor
open Go.RowKit

theorem own_shape {B : Nat} {w : World} {v : Value} {l : List UInt8} (h : Own B w v l) (h0 : 0 < l.length) : ∃ g cap, v = .slice (some ⟨g, 0, none⟩) l.length cap ∧ B ≤ g ∧ g < w.heap.size ∧ ∀ j, j < l.length → w.cell? ⟨g, j, none⟩ = some (.int .u8 ((l.getD j 0).toNat : Int)) := by
  unfold Own at h
  rcases h.2 with ⟨_, h1⟩ | ⟨g, cap, cur, rfl, r⟩
  · omega
  · have hl := h.lt g rfl
    refine ⟨g, cap, rfl, hl.1, hl.2, fun j hj => ?_⟩
    rw [h.cellAt j (by omega), Lib.byteCells, List.getElem?_map, List.getElem?_eq_getElem hj, List.getD, List.getElem?_eq_getElem hj]
    rfl

theorem req_pos (W : List (List UInt8)) : 0 < (req W).length := by
  rw [req, List.length_append, num_len]; omega

set_option maxHeartbeats 3200000 in
set_option maxRecDepth 100000 in
theorem keeps_any (A0 : Option Addr) (C0 : Nat) (l : List UInt8) (A : Option Addr) (cap : Nat) (W : List (List UInt8)) (w : World) (hn0 : l.length ≤ 140737488355328) (hlen : W.length ≤ 140737488355328) (hw : WordAt w.heap.size w A0 C0 l) (hW : WordsAt w.heap.size w A W) (htab : Tab w.heap.size w) :
    Calls Tryd.prog 3 #[.slice A0 l.length C0, .slice A W.length cap] w fun e w' => e = .returned (.bool true) ∧ Below w.heap.size w w' := by
  go_enter Tryd.func3, Tryd.ntmps3
  go_wp2_with (first
    | (go_at_call 5; refine (bytes5_any w.heap.size A0 l.length C0 A cap W w hn0 hlen hW).mono ?_; rintro e w' ⟨rfl, r, rfl, hr⟩))
  · go_ret
    exact ⟨rfl, Below.refl _ _⟩
  · go_ret
    exact ⟨rfl, Below.refl _ _⟩
  · go_ret
    exact ⟨rfl, Below.refl _ _⟩
  · go_ret
    exact ⟨rfl, Below.refl _ _⟩
  have hr' : l.length + W.length + sumW W W.length ≤ 1048576 := hr (by simpa using (by assumption : (!r) = false))
  clear hr
  go_loop [5, 6] (fun z i => ∃ (k m : Nat), k ≤ W.length ∧ i = .int .i64 k ∧ z = .int .i64 m ∧ m = l.length + 8 * W.length + sumW W k) (fun _ i => W.length - (intOf i).toNat)
  case atStart => exact ⟨0, l.length + 8 * W.length, Nat.zero_le _, rfl, by go_num, rfl⟩
  case round =>
    obtain ⟨k, m, hk, rfl, rfl, hme⟩ := hrel
    have HM : Hid (m = l.length + 8 * W.length + sumW W k) := hme
    have hsm := sumW_mono W hk
    have hmb : m ≤ 16777216 := by omega
    clear hme
    by_cases hlt : k < W.length
    · obtain ⟨b, off, hA, hrr⟩ := hW.word
      obtain ⟨rfl, _⟩ := hA (by omega)
      obtain ⟨A', C, hcx⟩ := hrr k hlt
      obtain ⟨x, hx⟩ : ∃ x, x = (W.getD k []).length := ⟨_, rfl⟩
      have HS : Hid (sumW W (k + 1) = sumW W k + x) := by rw [hx]; rfl
      have hsm1 : sumW W (k + 1) ≤ sumW W W.length := sumW_mono W hlt
      have hxb : x ≤ 1048576 := by have := HS.out; omega
      rw [← hx] at hcx
      clear hx hrr hA hsm1 hsm
      go_wp2
      · go_ret
        exact ⟨rfl, Below.refl _ _⟩
      · go_round
        case rel => exact ⟨k + 1, m + x, by omega, by go_num, by go_num, by rw [HS.out, HM.out]; omega⟩
        case measure => simp [intOf]; omega
    · clear HM hsm
      have hW65 : W.length ≤ 65536 := by have : (W.length : Int) ≤ 65536 := by assumption
                                         omega
      go_wp2_with fail
      refine (clone_any A0 C0 l w hw hn0).mono ?_
      rintro e w1 ⟨v0, rfl, hown0, hb1⟩
      go_wp2_with fail
      refine (request_any w.heap.size w.heap.size A cap W v0 l w1 hown0 (hW.on hb1 (Nat.le_refl _)) (Nat.le_refl _) hW65 (by omega) (by omega) hb1.size (htab.on hb1)).mono ?_
      rintro e w2 ⟨v1, rfl, hown1, hb2⟩
      have hb02 := hb1.trans hb2
      go_wp2_with fail
      refine (request_any w2.heap.size w.heap.size A cap W (.slice none 0 0) [] w2 (World.ownsRow_nil _ _ _ _) (hW.on hb02 (Nat.le_refl _)) hb02.size hW65 (by omega) (by simp) (Nat.le_refl _) ((htab.on hb02).up hb02.size)).mono ?_
      rintro e w3 ⟨v2, rfl, hown2, hb3⟩
      have hb03 := hb02.trans (hb3.mono hb02.size)
      have hrp := req_pos W
      have hrl := reqTo_len W W.length (by omega)
      have hrl2 : (req W).length ≤ 4000000 := by
        have := digits_le W.length (by omega)
        rw [req, List.length_append, num_len]; omega
      obtain ⟨g1, c1, rfl, _, hg1, hc1⟩ := own_shape hown1 (by rw [List.length_append]; omega)
      rw [List.nil_append] at hown2
      obtain ⟨g2, c2, rfl, _, hg2, hc2⟩ := own_shape hown2 hrp
      have hc1' : ∀ j, j < (l ++ req W).length → w3.cell? ⟨g1, j, none⟩ = some (.int .u8 (((l ++ req W).getD j 0).toNat : Int)) := fun j hj => (hb3.cell (p := ⟨g1, j, none⟩) hg1).trans (hc1 j hj)
      have HC1 : Hid (∀ j, j < (l ++ req W).length → w3.cell? ⟨g1, j, none⟩ = some (.int .u8 (((l ++ req W).getD j 0).toNat : Int))) := hc1'
      have HC2 : Hid (∀ j, j < (req W).length → w3.cell? ⟨g2, j, none⟩ = some (.int .u8 (((req W).getD j 0).toNat : Int))) := hc2
      have HW3 : Hid (WordsAt w.heap.size w3 A W) := hW.on hb03 (Nat.le_refl _)
      have HD3 : Hid (WordAt w.heap.size w3 A0 C0 l) := hw.on hb03 (Nat.le_refl _)
      obtain ⟨R, hR⟩ : ∃ R, R = req W := ⟨_, rfl⟩
      have HR : Hid (R = req W) := hR
      rw [← hR] at HC1 HC2 hrl2 hrp
      rw [← hR]
      clear hc1 hc2 hc1' hown0 hown1 hown2 hW hw htab hb1 hb2 hb02 hR hrl hb3
      have hl1 : (l ++ R).length = l.length + R.length := List.length_append
      go_wp2_with fail
      go_loopw [10] (fun i wr => ∃ j q : Nat, j ≤ l.length ∧ i = .int .i64 j ∧ wr = w3.drewN q) (fun i _ => l.length - (intOf i).toNat)
      case atStart => exact ⟨0, 0, Nat.zero_le _, rfl, rfl⟩
      case round =>
        obtain ⟨j, q, hj, rfl, rfl⟩ := hrel
        by_cases hlj : j < l.length
        · obtain ⟨_, b0, o0, hA0, hcd⟩ := HD3.out
          obtain ⟨rfl, _⟩ := hA0 (by omega)
          have e1 := HC1.out j (by omega)
          rw [getD_left l R j 0 hlj] at e1
          have e2 := hcd j hlj
          obtain ⟨y, hy⟩ : ∃ y, y = (l.getD j 0).toNat := ⟨_, rfl⟩
          rw [← hy] at e1 e2
          clear hy hcd hA0
          have b1 : (j : Int) < (l.length : Int) := by omega
          have b2 : (j : Int) < (l.length : Int) + (R.length : Int) := by omega
          go_wp2_with fail
          go_quiet (fail)
          go_wp2
          go_roundw
          case rel => exact ⟨j + 1, _, by omega, by go_num, rfl⟩
          case measure => simp [intOf]; omega
        · go_wp2_with fail
          go_loopw [11] (fun i wr => ∃ j q : Nat, j ≤ R.length ∧ i = .int .i64 j ∧ wr = w3.drewN q) (fun i _ => R.length - (intOf i).toNat)
          case atStart => exact ⟨0, q, Nat.zero_le _, rfl, rfl⟩
          case round =>
            obtain ⟨i, q', hi, rfl, rfl⟩ := hrel
            by_cases hli : i < R.length
            · have e1 := HC1.out (l.length + i) (by omega)
              rw [getD_right] at e1
              have e2 := HC2.out i hli
              obtain ⟨y, hy⟩ : ∃ y, y = (R.getD i 0).toNat := ⟨_, rfl⟩
              rw [← hy] at e1 e2
              clear hy
              have b1 : (i : Int) < (R.length : Int) := by omega
              have b2 : (l.length : Int) + (i : Int) < (l.length : Int) + (R.length : Int) := by omega
              go_wp2_with fail
              go_quiet (fail)
              go_wp2
              go_roundw
              case rel => exact ⟨i + 1, _, by omega, by go_num, rfl⟩
              case measure => simp [intOf]; omega
            · have hrd : Rd (w3.drewN q') g2 0 (req W) := fun j hj => by
                rw [Nat.zero_add, ← HR.out]
                exact HC2.out j (by rw [HR.out]; exact hj)
              have HDEC : Hid (Calls Tryd.prog 8 #[.slice (some ⟨g2, 0, none⟩) R.length c2, .slice A W.length cap] (w3.drewN q') fun e w' => e = .returned (.bool true) ∧ ∃ n, w' = (w3.drewN q').drewN n) := by
                rw [HR.out]
                exact decodes_any w.heap.size g2 0 c2 A cap W (w3.drewN q') hW65 (by omega) (by rw [← HR.out]; omega) hrd HW3.out
              clear hrd
              go_wp2_with fail
              refine HDEC.out.mono ?_
              rintro e w4 ⟨rfl, n4, rfl⟩
              go_wp2
              go_ret
              exact ⟨rfl, below_drewN hb03 _⟩

end Go.Proofs.Qxb6629317aDoor
