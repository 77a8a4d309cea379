/-
  DERIVED. Seat b6629317aD: the contracts of zzHeaderEnd, zzEqual, zzItoa, zzHeader.
-/
import Derived.Test.Qxb6629317aDoorKeeps
namespace Go.Proofs.Qxb6629317aDoor
open Go.RowKit

theorem ret2_first {y : Value} {a b : Int} (h : a = b) : Ending.returned (.tuple #[.int .i64 a, y]) = .returned (.tuple #[.int .i64 b, y]) := by rw [h]

set_option maxHeartbeats 1000000 in
/-- 'zzHeaderEnd' of a text that opens with a number line. -/
theorem headerEnd_any (b off cap : Nat) (L : List UInt8) (n : Nat) (w : World) (hLl : L.length ≤ 140737488355328) (hrd : Rd w b off L) (hat : NumAt L 0 42 n) :
    Calls Tryd.prog 10 #[.slice (some ⟨b, off, none⟩) L.length cap] w fun e w' => e = .returned (.tuple #[.int .i64 ((Lib.nDigits n + 3 : Nat) : Int), .bool true]) ∧ w = w' := by
  have hlen := hat.len
  obtain ⟨D, hD⟩ : ∃ D, D = Lib.nDigits n := ⟨_, rfl⟩
  have HD : Hid (D = Lib.nDigits n) := hD
  rw [← hD] at hlen
  rw [← hD]
  clear hD
  go_enter Tryd.func10, Tryd.ntmps10
  go_wp2_with fail
  go_loop [4] (fun i => ∃ j : Nat, j ≤ D + 1 ∧ i = .int .i64 j) (fun i => L.length - (intOf i).toNat)
  case atStart => exact ⟨0, Nat.zero_le _, rfl⟩
  case round =>
    obtain ⟨j, hj, rfl⟩ := hrel
    have hjl : (j : Int) + 1 < (L.length : Int) := by omega
    by_cases hlt : j < D + 1
    · have hne : ((((L.getD j 0).toNat : Nat) : Int) == 13) = false := by
        by_cases h0 : j = 0
        · subst h0
          rw [hat.kind]
          rfl
        · have h1 := hat.dig (j - 1) (by rw [← HD.out]; omega)
          have h2 := dig_range n (j - 1) (by rw [← HD.out]; omega)
          rw [show 0 + 1 + (j - 1) = j by omega] at h1
          rw [h1]
          exact beq_false_of_ne (by omega)
      have hc := hrd j (by omega)
      obtain ⟨y, hy⟩ : ∃ y, y = (L.getD j 0).toNat := ⟨_, rfl⟩
      rw [← hy] at hne hc
      clear hy
      go_wp2
      go_round
      case rel => exact ⟨j + 1, by omega, by go_num⟩
      case measure => simp [intOf]; omega
    · obtain rfl : j = D + 1 := by omega
      have hc13 : w.cell? ⟨b, off + (D + 1), none⟩ = some (.int .u8 13) := by
        have := hrd (D + 1) (by omega)
        have h1 := hat.cr
        rw [← HD.out, show 0 + 1 + D = D + 1 by omega] at h1
        rw [h1] at this
        exact this
      have hc10 : w.cell? ⟨b, off + (D + 1 + 1), none⟩ = some (.int .u8 10) := by
        have := hrd (D + 1 + 1) (by omega)
        have h1 := hat.lf
        rw [← HD.out, show 0 + 1 + D + 1 = D + 1 + 1 by omega] at h1
        rw [h1] at this
        exact this
      obtain ⟨m, hm⟩ : ∃ m, m = D + 1 := ⟨_, rfl⟩
      have HM : Hid (m = D + 1) := hm
      rw [← hm] at hc13 hc10 hjl
      rw [← hm]
      clear hm
      go_wp2
      go_ret2
      exact ⟨ret2_first (a := (m : Int) + 2) (by have := HM.out; omega), rfl⟩

set_option maxHeartbeats 1000000 in
/-- 'zzEqual' of two slices that hold the same bytes. -/
theorem equal_any (b1 o1 c1 b2 o2 c2 : Nat) (l : List UInt8) (w : World) (hl : l.length ≤ 140737488355328) (h1 : Rd w b1 o1 l) (h2 : Rd w b2 o2 l) :
    Calls Tryd.prog 11 #[.slice (some ⟨b1, o1, none⟩) l.length c1, .slice (some ⟨b2, o2, none⟩) l.length c2] w fun e w' => e = .returned (.bool true) ∧ ∃ q, w' = w.drewN q := by
  go_enter Tryd.func11, Tryd.ntmps11
  go_wp2_with fail
  go_loopw [5] (fun i wr => ∃ j q : Nat, j ≤ l.length ∧ i = .int .i64 j ∧ wr = w.drewN q) (fun i _ => l.length - (intOf i).toNat)
  case atStart => exact ⟨0, 0, Nat.zero_le _, rfl, rfl⟩
  case round =>
    obtain ⟨j, q, hj, rfl, rfl⟩ := hrel
    by_cases hlt : j < l.length
    · have e1 := h1 j hlt
      have e2 := h2 j hlt
      obtain ⟨y, hy⟩ : ∃ y, y = (l.getD j 0).toNat := ⟨_, rfl⟩
      rw [← hy] at e1 e2
      clear hy
      have bj : (j : Int) < (l.length : Int) := by omega
      go_wp2_with fail
      go_quiet (fail)
      go_wp2
      go_roundw
      case rel => exact ⟨j + 1, _, by omega, by go_num, rfl⟩
      case measure => simp [intOf]; omega
    · go_wp2
      go_ret
      exact ⟨rfl, _, rfl⟩

/-- What is owned stays owned while nothing that was there turns. -/
theorem own_keep {B U : Nat} {w w' : World} {v : Value} {l : List UInt8} (h : Own B w v l) (hU : w.heap.size ≤ U) (hb : Below U w w') : Own B w' v l := by
  unfold Own at h ⊢
  refine ⟨h.1, ?_⟩
  rcases h.2 with hn | ⟨g, cap, cur, rfl, hbg, hg, r⟩
  · exact .inl hn
  · have := (h.lt g rfl).2
    exact .inr ⟨g, cap, cur, rfl, hbg, by rw [hb.block g (by omega)]; exact hg, r⟩

theorem own_one (w : World) (k : UInt8) : Own w.heap.size (w.alloc (.cells #[.int .u8 (k.toNat : Int)] 5)) (.slice (some ⟨w.heap.size, 0, none⟩) 1 1) [k] := by
  refine ⟨rfl, .inr ⟨w.heap.size, 1, #[.int .u8 (k.toNat : Int)], rfl, Nat.le_refl _, heap_alloc_new w _, Nat.le_refl _, by decide, rfl, rfl⟩⟩

set_option maxHeartbeats 1000000 in
theorem itoa_zero (w : World) : Calls Tryd.prog 15 #[.int .i64 0] w fun e w' => ∃ v, e = .returned v ∧ Own w.heap.size w' v (Lib.decDigits 0) ∧ Below w.heap.size w w' := by
  go_enter Tryd.func15, Tryd.ntmps15
  go_wp2
  go_ret
  refine ⟨_, rfl, ?_, (Below.refl _ _).alloc (Nat.le_refl _) _⟩
  rw [Lib.decDigits_one (by decide)]
  exact own_one w 48

set_option maxHeartbeats 1000000 in
theorem itoa_pos (n : Nat) (w : World) (h0 : 0 < n) (hn : n ≤ 1048576) : Calls Tryd.prog 15 #[.int .i64 n] w fun e w' => ∃ v, e = .returned v ∧ Own w.heap.size w' v (Lib.decDigits n) ∧ Below w.heap.size w w' := by
  obtain ⟨i0, hi0, hz0, hz1, hz2⟩ := info_parts Tryd.info5
  have hd0 : decide (n = 0) = false := decide_eq_false (by omega)
  have hDp := Lib.nDigits_pos n
  have hD24 := digits_le n hn
  rw [Lib.decDigits_length] at hD24
  obtain ⟨D, hD⟩ : ∃ D, D = Lib.nDigits n := ⟨_, rfl⟩
  have HD : Hid (D = Lib.nDigits n) := hD
  rw [← hD] at hDp hD24
  clear hD
  go_enter Tryd.func15, Tryd.ntmps15
  go_wp2_with fail
  go_loopw [0, 4] (fun z i wr => ∃ (t m : Nat) (cs : Array Value), t ≤ D ∧ z = .int .i64 ((n / 10 ^ t : Nat) : Int) ∧ i = .int .i64 m ∧ m + t = 24 ∧ wr.heap[w.heap.size]? = some (.cells cs 36 (0, 0)) ∧ cs.size = 24 ∧
      (∀ j, j < t → cs[23 - j]? = some (.int .u8 ((48 + n / 10 ^ j % 10 : Nat) : Int))) ∧ Below w.heap.size w wr) (fun z _ _ => (intOf z).toNat)
  case atStart => exact ⟨0, 24, _, Nat.zero_le _, by simp, rfl, rfl, heap_alloc_new w _, rfl, fun j hj => absurd hj (by omega), (Below.refl _ _).alloc (Nat.le_refl _) _⟩
  case round =>
    obtain ⟨t, m, cs, ht, rfl, rfl, hmt, hblk, hcs, hdig, hbel⟩ := hrel
    by_cases hlt : t < D
    · have hpos : 0 < n / 10 ^ t := by
        have h1 : 10 ^ t ≤ n := by
          by_cases h2 : 1 < D
          · have h3 := pow_le_of_digits n (by rw [← HD.out]; exact h2)
            exact Nat.le_trans (Nat.pow_le_pow_right (by decide) (by rw [← HD.out]; omega)) h3
          · have : t = 0 := by omega
            subst this
            rw [Nat.pow_zero]
            exact h0
        exact Nat.div_pos h1 (Nat.pow_pos (by decide))
      have hsc : n / 10 ^ (t + 1) = n / 10 ^ t / 10 := by rw [Nat.pow_succ, ← Nat.div_div_eq_div_mul]
      have hnl : n / 10 ^ t ≤ n := Nat.div_le_self _ _
      obtain ⟨x, hx⟩ : ∃ x, x = n / 10 ^ t := ⟨_, rfl⟩
      have HX : Hid (x = n / 10 ^ t) := hx
      rw [← hx] at hpos hsc hnl
      rw [← hx]
      have HSC : Hid (n / 10 ^ (t + 1) = x / 10) := hsc
      obtain ⟨u, hu⟩ : ∃ u, cs[m - 1]? = some u := ⟨_, Array.getElem?_eq_getElem (by omega)⟩
      have hc : wr.cell? ⟨w.heap.size, m - 1, none⟩ = some u := by rw [Lib.cell_of_heap hblk]; exact hu
      have hf : wr.frozen? ⟨w.heap.size, m - 1, none⟩ = false := Lib.frozen_of_heap hblk _
      have HDG : Hid (∀ j, j < t → cs[23 - j]? = some (.int .u8 ((48 + n / 10 ^ j % 10 : Nat) : Int))) := hdig
      have hm1 : 1 ≤ m := by omega
      have hm24 : m ≤ 24 := by omega
      have HMT : Hid (m + t = 24) := hmt
      clear hx hsc hdig hu hmt
      go_wp2
      go_roundw
      case rel =>
        refine ⟨t + 1, m - 1, cs.setIfInBounds (m - 1) (.int .u8 (48 + (x : Int) % 10)), by omega, by rw [HSC.out]; go_num, by go_num, by have := HMT.out; omega, ?_, by rw [Array.size_setIfInBounds]; exact hcs, fun j hj => ?_, hbel.setCell (p := ⟨w.heap.size, m - 1, none⟩) (Nat.le_refl _) _⟩
        · simp [World.setCell, Array.getElem?_modify, hblk]
        · have hm := HMT.out
          by_cases e : j = t
          · subst e
            rw [show 23 - j = m - 1 by omega, Array.getElem?_setIfInBounds_self_of_lt (by omega), ← HX.out]
            simp
          · rw [Array.getElem?_setIfInBounds_ne (by omega)]
            exact HDG.out j (by omega)
      case measure => simp [intOf]; omega
    · obtain rfl : t = D := by omega
      have hz : n / 10 ^ t = 0 := Nat.div_eq_of_lt (by rw [HD.out]; exact Lib.lt_pow_nDigits n)
      rw [hz]
      have hmk : (24 : Int) - (m : Int) = (t : Int) := by omega
      have HMK : Hid ((24 : Int) - (m : Int) = (t : Int)) := hmk
      have hmkb : i0.bytes * t ≤ 281474976710656 := by rw [hz2]; omega
      have hmb : m ≤ 24 := by omega
      have HMT : Hid (m + t = 24) := hmt
      clear hz hmk hmt
      obtain ⟨wo, rfl⟩ : ∃ wo : World, wo = wr := ⟨_, rfl⟩
      have hwsz := hbel.size
      have hlw : w.heap.size < wo.heap.size := by
        rcases Nat.lt_or_ge w.heap.size wo.heap.size with h' | h'
        · exact h'
        · simp [Array.getElem?_eq_none h'] at hblk
      go_wp2_with (first
        | (at_make; refine wpList_make_full _ rfl _ _ 22 rfl w.heap.size 5 i0 (.int .u8 0) 1 Tryd.underlying22 hi0 hz0 hz1 .i64 .i64 _ _ t rfl rfl HMK.out HMK.out hmkb (by unfold maxLen; omega) hwsz ?_; intro w1 hown1 hgrow1))
      have hb1 : Below w.heap.size w w1 := hbel.grown hgrow1 hwsz (fun q hq => by cases hq)
      have hblk1 : w1.heap[w.heap.size]? = some (.cells cs 36 (0, 0)) := by rw [hgrow1.block w.heap.size hlw (by simp)]; exact hblk
      have hxl : (madeCells (Value.int .u8 0).cells (t * 1)).toList.length = t := by have := hown1.1; rw [Nat.mul_one] at this ⊢; exact this
      go_loopw [6] (fun i wr => ∃ (k : Nat) (xs : List Value), k ≤ t ∧ i = .int .i64 k ∧ xs.length = t ∧ wr.ownsRow w.heap.size 5 1 (.slice (some ⟨wo.heap.size, 0, none⟩) t t) t xs ∧ (∀ j, j < k → xs[j]? = some (.int .u8 ((48 + n / 10 ^ (t - 1 - j) % 10 : Nat) : Int))) ∧ wr.heap[w.heap.size]? = some (.cells cs 36 (0, 0)) ∧ Below w.heap.size w wr)
        (fun i _ => t - (intOf i).toNat)
      case atStart => exact ⟨0, _, Nat.zero_le _, rfl, hxl, hown1, fun j hj => absurd hj (by omega), hblk1, hb1⟩
      case round =>
        clear hown1 hgrow1 hb1 hblk1 hxl hbel hblk
        obtain ⟨k, xs, hk, rfl, hxs, hown, hdone, hblk, hbk⟩ := hrel
        by_cases hlk : k < t
        · have hc1 : wr.cell? ⟨w.heap.size, m + k, none⟩ = some (.int .u8 ((48 + n / 10 ^ (t - 1 - k) % 10 : Nat) : Int)) := by
            rw [Lib.cell_of_heap hblk, show m + k = 23 - (t - 1 - k) by have := HMT.out; omega]
            exact hdig (t - 1 - k) (by omega)
          obtain ⟨y, hy⟩ : ∃ y, y = 48 + n / 10 ^ (t - 1 - k) % 10 := ⟨_, rfl⟩
          rw [← hy] at hc1
          have HY : Hid (y = 48 + n / 10 ^ (t - 1 - k) % 10) := hy
          obtain ⟨u, hu⟩ : ∃ u, xs[k]? = some u := ⟨_, List.getElem?_eq_getElem (by omega)⟩
          have hc2 : wr.cell? ⟨wo.heap.size, k, none⟩ = some u := by rw [hown.cellAt k (by omega)]; exact hu
          have hf2 : wr.frozen? ⟨wo.heap.size, k, none⟩ = false := hown.frozenAt k
          have hst := hown.stored k (.int .u8 (y : Int))
          have hbs := hbk.grown hst.2 hbk.size (fun q hq => by cases hq; exact hwsz)
          have hblk' : (wr.setCell ⟨wo.heap.size, k, none⟩ (.int .u8 (y : Int))).heap[w.heap.size]? = some (.cells cs 36 (0, 0)) := by
            rw [Below.heap_setCell _ _ _ _ (by show w.heap.size ≠ wo.heap.size; omega)]; exact hblk
          have HDN : Hid (∀ j, j < k → xs[j]? = some (.int .u8 ((48 + n / 10 ^ (t - 1 - j) % 10 : Nat) : Int))) := hdone
          have HBK : Hid ((wr.setCell ⟨wo.heap.size, k, none⟩ (.int .u8 (y : Int))).heap[w.heap.size]? = some (.cells cs 36 (0, 0))) := hblk'
          have bk : (m : Int) + (k : Int) < 24 := by have := HMT.out; omega
          clear hy hdone hu hdig hblk hblk'
          go_wp2
          go_roundw
          case rel =>
            refine ⟨k + 1, xs.set k (.int .u8 (y : Int)), by omega, by go_num, by rw [List.length_set]; exact hxs, hst.1, fun j hj => ?_, HBK.out, hbs⟩
            by_cases e : j = k
            · subst e
              rw [List.getElem?_set_self (by omega), HY.out]
            · rw [List.getElem?_set_ne (fun e' => e e'.symm)]
              exact HDN.out j (by omega)
          case measure => simp [intOf]; omega
        · obtain rfl : k = t := by omega
          have hfull : xs = Lib.byteCells (Lib.decDigits n) := by
            refine cells_full (by rw [Lib.decDigits_length, ← HD.out]; exact hxs) fun j hj => ?_
            rw [Lib.decDigits_length, ← HD.out] at hj
            rw [hdone j hj, dig_at n j (by rw [← HD.out]; exact hj), ← HD.out]
          have hlen : k = (Lib.decDigits n).length := by rw [Lib.decDigits_length]; exact HD.out
          have HLEN : Hid (k = (Lib.decDigits n).length) := hlen
          clear hlen hdone hdig
          go_wp2
          go_ret
          exact ⟨_, rfl, own_of hown HLEN.out hfull, hbk⟩

theorem itoa_any (n : Nat) (w : World) (hn : n ≤ 1048576) : Calls Tryd.prog 15 #[.int .i64 n] w fun e w' => ∃ v, e = .returned v ∧ Own w.heap.size w' v (Lib.decDigits n) ∧ Below w.heap.size w w' := by
  by_cases h0 : n = 0
  · subst h0; exact itoa_zero w
  · exact itoa_pos n w (by omega) hn

end Go.Proofs.Qxb6629317aDoor
