/-
  DERIVED. Seat b6629267a: the walk of 'FnWriteScriptFromZeroConcatenates'.
-/
import Derived.Test.Qxb6629267aSums
import Derived.Laws.IdiomStrings
import Derived.Laws.BytesArg
namespace Go.Proofs.Qxb6629267a
open Go.RowKit

theorem bytes10_opt (a : Option Addr) (b off len cap : Nat) (ss : List ByteArray) (w : World) (ha : 0 < len → a = some ⟨b, off, none⟩) (hreach : len * 16 ≤ 140737488351232) (hz : len ≤ ss.length)
    (hc : ∀ j, j < ss.length → w.cell? ⟨b, off + j, none⟩ = some (.string (ss.getD j ByteArray.empty))) :
    Calls Try.prog 10 #[.slice a len cap] w fun e w' => w = w' ∧ BytesOk ss len e := by
  by_cases h0 : len = 0
  · subst h0
    refine (bytes10_none a cap w).mono ?_
    rintro e w' ⟨rfl, rfl⟩
    exact ⟨rfl, ⟨_, rfl, fun _ => by simp [sumTo]⟩⟩
  · obtain rfl := ha (by omega)
    exact bytes10_any b off len cap ss w hreach hz hc

/-- The state of the Splitter behind k pieces. -/
def Fed (B U b : Nat) (ss : List ByteArray) (k : Nat) (w : World) : Prop :=
  ∃ p, (p = .pointer none ∨ p = .pointer (some ⟨b, 0, none⟩)) ∧ BAt B U b p (catTo ss k) (tl ⟨(catTo ss k).toArray⟩ 0 (decide (0 < k)) 0 (decide (0 < k)) 0) w

theorem fed_zero (ss : List ByteArray) (w : World) : Fed w.heap.size (w.heap.size + 1) w.heap.size ss 0 (w.alloc (.cells #[.pointer none, .slice none 0 0, .string ⟨#[]⟩, .int .i64 0, .bool false, .int .i64 0, .bool false, .int .i64 0] 38)) := by
  refine ⟨_, Or.inl rfl, Nat.le_refl _, by omega, by simp, rfl, .slice none 0 0, ?_, World.ownsRowF_nil _ _ _ _, by simp [Value.ownBlock], by simp [Value.ownBlock]⟩
  show (w.heap.push _)[w.heap.size]? = _
  simp [tl, catTo]

/-- One piece more. -/
theorem fed_write (B U b : Nat) (ss : List ByteArray) (k : Nat) (s : ByteArray) (w : World) (h : Fed B U b ss k w) (hs : s = ss.getD k ByteArray.empty) (hlen : sumTo ss k + s.size ≤ 1048576) (hBw : B ≤ w.heap.size) :
    Calls Try.prog 7 #[.pointer (some ⟨b, 0, none⟩), .string s] w fun e w' => e = .returned (.tuple #[]) ∧ Fed B w'.heap.size b ss (k + 1) w' ∧ Below B w w' := by
  obtain ⟨p, hp, h⟩ := h
  have hsz : (⟨(catTo ss k).toArray⟩ : ByteArray).size = sumTo ss k := by rw [← catTo_len]; rfl
  refine (write_any B U b p ⟨(catTo ss k).toArray⟩ 0 0 _ 0 _ s w h hp (Nat.le_refl _) (Nat.zero_le _) (by rw [hsz]; omega) hBw).mono ?_
  rintro e w' ⟨rfl, h1, h2⟩
  refine ⟨rfl, ⟨_, Or.inr rfl, ?_⟩, h2⟩
  have e1 : catTo ss (k + 1) = List.drop 0 (⟨(catTo ss k).toArray⟩ : ByteArray).data.toList ++ s.data.toList := by rw [catTo, hs]; rfl
  have e2 : decide (0 < k + 1) = true := by simp
  rw [e2, e1]
  exact h1

theorem cat_tail (ss : List ByteArray) (j : Nat) (s : ByteArray) (hs : s = ss.getD j ByteArray.empty) : (⟨(catTo ss (j + 1)).toArray⟩ : ByteArray).extract (sumTo ss j) (⟨(catTo ss (j + 1)).toArray⟩ : ByteArray).size = s := by
  apply ByteArray.ext
  apply Array.toList_inj.1
  rw [Lib.extract_to_end]
  show List.drop (sumTo ss j) (catTo ss (j + 1)) = _
  rw [catTo, ← hs, ← catTo_len, List.drop_left]

theorem conv_own {w : World} {base n : Nat} {v : Value} {l : List UInt8} (h : w.ownsRow base 5 1 v n (Lib.byteCells l)) (hl : l.length = n) :
    ∃ ao cp, v = .slice ao n cp ∧ ∀ k, (convert 32 9 (.slice ao n cp)).run Try.prog (w.drewN k) = .ok (.string ⟨l.toArray⟩) (w.drewN k) := by
  have hown := World.ownsRowF_of h
  rcases h.2 with ⟨rfl, rfl⟩ | ⟨g, cap, cur, rfl, r⟩
  · obtain rfl : l = [] := List.eq_nil_of_length_eq_zero hl
    exact ⟨none, 0, rfl, fun k => run_convert_bytes_nil _ 32 5 Try.underlying32 Try.underlying5 0 0 9 Try.underlying9⟩
  · refine ⟨_, cap, rfl, fun k => ?_⟩
    subst hl
    refine run_convert_bytes_back (w.drewN k) 32 9 5 ⟨g, 0, none⟩ cap l Try.underlying32 Try.underlying5 Try.underlying9 ?_
    intro j hj
    exact hown.cells (g := g) rfl j _ (by simp [Lib.byteCells, hj])

theorem one_cell (x : Int) : ∀ u ∈ [Value.int .u8 x], u.oneCell' = true := by
  intro u hu
  simp only [List.mem_singleton] at hu
  subst hu
  rfl

theorem snoc_cells (l : List UInt8) (s : ByteArray) (q : Nat) (h : q < s.size) : Lib.byteCells (l ++ s.data.toList.take (q + 1)) = Lib.byteCells (l ++ s.data.toList.take q) ++ [.int .u8 (s[q].toNat : Int)] := by
  rw [List.take_succ_eq_append_getElem (by rw [toList_len]; exact h), ← List.append_assoc, Lib.byteCells_append]
  rfl

set_option maxHeartbeats 1600000 in
set_option maxRecDepth 100000 in
theorem zero_any (a : Option Addr) (b off len cap : Nat) (ss : List ByteArray) (w : World) (ha : 0 < len → a = some ⟨b, off, none⟩) (hreach : len * 16 ≤ 140737488351232) (hz : len ≤ ss.length) (hb : 0 < len → b < w.heap.size)
    (hc : ∀ j, j < ss.length → w.cell? ⟨b, off + j, none⟩ = some (.string (ss.getD j ByteArray.empty))) :
    Calls Try.prog 4 #[.slice a len cap] w fun e w' => e = .returned (.bool true) ∧ Below w.heap.size w w' := by
  obtain ⟨i0, hi, hz0, hz1, hz2⟩ := info_parts Try.info5
  go_enter Try.func4, Try.ntmps4
  go_wp2_with (first
    | (go_at_call 10; refine (bytes10_opt a b off len cap ss _ ha hreach hz hc).mono ?_; rintro e w' ⟨rfl, r, rfl, hr⟩))
  · go_ret
    exact ⟨rfl, Below.refl _ _⟩
  · go_ret
    exact ⟨rfl, Below.refl _ _⟩
  have hr' : len + sumTo ss len ≤ 1048576 := hr (by simpa using (by assumption : (!r) = false))
  clear hr
  go_loop [3, 4] (fun z i => ∃ (k m : Nat), k ≤ len ∧ i = .int .i64 k ∧ z = .int .i64 m ∧ m = 16 * len + sumTo ss k) (fun _ i => len - (intOf i).toNat)
  case atStart => exact ⟨0, 16 * len, Nat.zero_le _, rfl, by go_num, rfl⟩
  case round =>
    obtain ⟨k, m, hk, rfl, rfl, hme⟩ := hrel
    have HM : Hid (m = 16 * len + sumTo ss k) := hme
    have hsm := sumTo_mono ss hk
    have hmb : m ≤ 16777216 := by omega
    clear hme
    by_cases hlt : k < len
    · obtain ⟨s, hs⟩ : ∃ s, s = ss.getD k ByteArray.empty := ⟨_, rfl⟩
      have hsm1 : sumTo ss (k + 1) ≤ sumTo ss len := sumTo_mono ss hlt
      have HS : Hid (sumTo ss (k + 1) = sumTo ss k + s.size) := by rw [hs]; rfl
      have hss : s.size ≤ 1048576 := by have := HS.out; omega
      have hcx : w.cell? ⟨b, off + k, none⟩ = some (.string s) := by rw [hs]; exact hc k (by omega)
      obtain rfl := ha (by omega)
      clear hs hc hsm1 hsm
      go_wp2
      · go_ret
        exact ⟨rfl, Below.refl _ _⟩
      · go_round
        case rel => exact ⟨k + 1, m + s.size, by omega, by go_num, by go_num, by rw [HS.out, HM.out]; omega⟩
        case measure => simp [intOf]; omega
    · clear HM hsm
      go_wp2_with fail
      go_loopw [6, 7] (fun n i wr => ∃ (j U : Nat), j ≤ len ∧ i = .int .i64 j ∧ n = .int .i64 (sumTo ss j) ∧ Fed w.heap.size U w.heap.size ss j wr ∧ Below w.heap.size w wr)
        (fun _ i _ => len - (intOf i).toNat)
      case atStart => exact ⟨0, w.heap.size + 1, Nat.zero_le _, rfl, rfl, fed_zero ss w, (Below.refl _ _).alloc (Nat.le_refl _) _⟩
      case round =>
        obtain ⟨j, U, hj, rfl, rfl, hfed, hbel⟩ := hrel
        have hsm := sumTo_mono ss hj
        by_cases hlj : j < len
        · obtain ⟨s, hs⟩ : ∃ s, s = ss.getD j ByteArray.empty := ⟨_, rfl⟩
          have hsm1 : sumTo ss (j + 1) ≤ sumTo ss len := sumTo_mono ss hlj
          have HS : Hid (sumTo ss (j + 1) = sumTo ss j + s.size) := by rw [hs]; rfl
          have hss : sumTo ss j + s.size ≤ 1048576 := by have := HS.out; omega
          have hcx : wr.cell? ⟨b, off + j, none⟩ = some (.string s) := by rw [hs]; exact (hbel.cell (hb (by omega))).trans (hc j (by omega))
          obtain rfl := ha (by omega)
          have HSS : Hid (s = ss.getD j ByteArray.empty) := hs
          clear hs hsm1 hsm
          go_wp2_with fail
          refine (fed_write w.heap.size U w.heap.size ss j s wr hfed HSS.out hss hbel.size).mono ?_
          rintro e w1 ⟨rfl, hfed1, hbel1⟩
          obtain ⟨p1, hp1, hat1⟩ := hfed1
          obtain ⟨T, hT⟩ : ∃ T : ByteArray, T = ⟨(catTo ss (j + 1)).toArray⟩ := ⟨_, rfl⟩
          have hTs : T.size = sumTo ss j + s.size := by rw [hT, ← HS.out, ← catTo_len]; rfl
          have hTe : T.extract (sumTo ss j) (sumTo ss j + s.size) = s := by rw [← hTs, hT]; exact cat_tail ss j s HSS.out
          rw [← hT] at hat1
          have HT : Hid (T = ⟨(catTo ss (j + 1)).toArray⟩) := hT
          clear hcx hT
          go_wp2_with fail
          refine (state_any _ _ _ _ _ _ _ _ _ _ _ _ hat1).mono ?_
          rintro e w2 ⟨rfl, nd, rfl⟩
          go_wp2
          go_roundw
          case rel =>
            refine ⟨j + 1, w1.heap.size, by omega, by go_num, by rw [HS.out]; go_num, ⟨p1, hp1, ?_⟩, below_drewN (hbel.trans hbel1) _⟩
            rw [← HT.out]
            exact hat1.drewN _
          case measure => simp [intOf]; omega
        · obtain rfl : j = len := by omega
          obtain ⟨wo, rfl⟩ : ∃ wo : World, wo = wr := ⟨_, rfl⟩
          have hmkb : i0.bytes * sumTo ss j ≤ 281474976710656 := by rw [hz2]; omega
          go_wp2_with (first
            | (at_make; refine wpList_make_own _ rfl _ _ 32 rfl wo.heap.size 5 i0 (.int .u8 0) 1 Try.underlying32 hi hz0 hz1 .i64 .i64 _ (sumTo ss j) rfl rfl rfl hmkb (by unfold maxLen; omega) (Nat.le_refl _) ?_; intro w1 hown1 hgrow1))
          go_loopw [15, 16] (fun v i wr => ∃ (m : Nat), m ≤ j ∧ i = .int .i64 m ∧ wr.ownsRow wo.heap.size 5 1 v (sumTo ss m) (Lib.byteCells (catTo ss m)) ∧ Below wo.heap.size wo wr)
            (fun _ i _ => j - (intOf i).toNat)
          case atStart => exact ⟨0, Nat.zero_le _, rfl, hown1, (Below.refl _ _).grown hgrow1 (Nat.le_refl _) (fun q hq => by cases hq)⟩
          case round =>
            clear hown1 hgrow1
            obtain ⟨m, hm, rfl, hown, hbel2⟩ := hrel
            obtain ⟨w3, rfl⟩ : ∃ w3 : World, w3 = wr := ⟨_, rfl⟩
            by_cases hlm : m < j
            · obtain ⟨s, hs⟩ : ∃ s, s = ss.getD m ByteArray.empty := ⟨_, rfl⟩
              have hsm1 : sumTo ss (m + 1) ≤ sumTo ss j := sumTo_mono ss hlm
              have HS : Hid (sumTo ss (m + 1) = sumTo ss m + s.size) := by rw [hs]; rfl
              have hss : sumTo ss m + s.size ≤ 1048576 := by have := HS.out; omega
              have hb0 := hb (by omega)
              have hcx : w3.cell? ⟨b, off + m, none⟩ = some (.string s) := by
                rw [hs, hbel2.cell (Nat.lt_of_lt_of_le hb0 hbel.size)]
                exact (hbel.cell hb0).trans (hc m (by omega))
              obtain rfl := ha (by omega)
              have HC : Hid (catTo ss (m + 1) = catTo ss m ++ s.data.toList) := by rw [hs]; rfl
              clear hs hsm1
              go_wp2_with fail
              go_loopw [15, 18] (fun v i wr => ∃ (q : Nat), q ≤ s.size ∧ i = .int .i64 q ∧ wr.ownsRow wo.heap.size 5 1 v (sumTo ss m + q) (Lib.byteCells (catTo ss m ++ s.data.toList.take q)) ∧ Below wo.heap.size wo wr)
                (fun _ i _ => s.size - (intOf i).toNat)
              case atStart => exact ⟨0, Nat.zero_le _, rfl, by simpa using hown, hbel2⟩
              case round =>
                clear hown hbel2 hcx
                obtain ⟨q, hq, rfl, hown, hbel2⟩ := hrel
                by_cases hlq : q < s.size
                · have hszw := hbel2.size
                  go_wp2_with (first
                    | (at_builtin; refine wpList_append_own _ rfl _ _ 32 rfl wo.heap.size 5 i0 (.int .u8 0) 1 1 Try.underlying32 hi hz0 hz1 hz2 rfl (by decide) _ _ _ rfl (hown.alloc _) ⟨wr.heap.size, 0, none⟩ 1 1 [.int .u8 (s[q].toNat : Int)] rfl rfl (cell_one_new _ _ _) (one_cell _) (by unfold maxLen; omega) (by omega) (by simp; omega) ?_; intro v' w4 hown4 hgrow4 hnil4))
                  have hbel4 := ((hbel2.alloc hszw _).grown hgrow4 (by simp; omega) (fun x hx => (hown.lt x hx).1))
                  have hl4 := snoc_cells (catTo ss m) s q hlq
                  go_roundw
                  case rel =>
                    refine ⟨q + 1, by omega, by go_num, ?_, hbel4⟩
                    rw [hl4]
                    exact hown4
                  case measure => simp [intOf]; omega
                · obtain rfl : q = s.size := by omega
                  have htk : s.data.toList.take s.size = s.data.toList := List.take_of_length_le (by rw [toList_len]; exact Nat.le_refl _)
                  rw [htk, ← HC.out, ← HS.out] at hown
                  clear htk
                  go_wp2
                  go_roundw
                  case rel => exact ⟨m + 1, by omega, by go_num, hown, hbel2⟩
                  case measure => simp [intOf]; omega
            · obtain rfl : m = j := by omega
              obtain ⟨p1, hp1, hat⟩ := hfed
              have hat3 := hat.below (hbel2.mono hat.2.2.1)
              obtain ⟨ao, cp, rfl, hcv⟩ := conv_own hown (catTo_len ss m)
              obtain ⟨T, hT⟩ : ∃ T : ByteArray, T = ⟨(catTo ss m).toArray⟩ := ⟨_, rfl⟩
              rw [← hT] at hcv hat3
              have HT : Hid (T = ⟨(catTo ss m).toArray⟩) := hT
              have hdec : decide ((0 : Int) < (m : Int)) = decide (0 < m) := by simp
              clear hT hown hat hc
              go_wp2_with fail
              refine (state_any _ _ _ _ _ _ _ _ _ _ _ _ hat3).mono ?_
              rintro e w2 ⟨rfl, nd, rfl⟩
              have hat4 := hat3.drewN nd
              have hBw4 : w.heap.size ≤ (w3.drewN nd).heap.size := Nat.le_trans hbel.size hbel2.size
              have hcn := hcv nd
              clear hcv
              go_wp2_with (first
                | (go_at_call 9; refine (bufText_any _ _ _ _ _ _ _ hat4 hBw4).mono ?_; rintro e w5 ⟨rfl, hat5, hbel5, _⟩; rw [← HT.out]))
              go_ret
              refine ⟨?_, ?_⟩
              · simp
              · exact (hbel.trans (below_drewN (hbel2.mono hbel.size) nd)).trans hbel5

end Go.Proofs.Qxb6629267a
