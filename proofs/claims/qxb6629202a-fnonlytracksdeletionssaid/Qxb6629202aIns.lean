/-
  DERIVED. Seat b6629202a: the walk of 'FnOnlyTracksInsertions'.
-/
import Derived.Test.Qxb6629202aOnly
import Derived.Test.Qxb6629202aBytes
import Derived.Deep.QuietTactic
import Derived.BigQuiet
namespace Go.Proofs.Qxb6629202a
open Go.RowKit Go.WideMaps Go.Maps

theorem run_make25 (w : World) (n : Int) : (Instr.makeMap 25 (some (.int .i64 n))).run Try.prog w = .ok (.map (some w.heap.size)) (w.alloc (.map #[] 0)) := by
  simp [Instr.makeMap, run_underlying Try.underlying25, asInt, Result.andThen]
  rfl

theorem ins_nil (w : World) : Calls Try.prog 3 #[.slice none 0 0] w fun e w' => e = .returned (.bool true) ∧ Below w.heap.size w w' := by
  go_enter Try.func3, Try.ntmps3
  go_wp2_with (first
    | (go_at_call 5; refine (bytes5_none _ _ _).mono ?_; rintro e w' ⟨rfl, rfl⟩)
    | (go_at_call 6; refine (only_nil _).mono ?_; rintro e w' ⟨rfl, rfl⟩))
  refine wp_loop_rounds 1 ?_
  rw [rounds_succ]
  go_wp2_with (first
    | (go_at_call 6; refine (only_nil _).mono ?_; rintro e w' ⟨rfl, rfl⟩))
  refine wp_loop_rounds 1 ?_
  rw [rounds_succ]
  go_wp2
  go_ret
  exact ⟨rfl, Below.refl _ _⟩

theorem getD_le {ss : List ByteArray} (hsz : ∀ s ∈ ss, s.size ≤ maxLen) (k : Nat) : (ss.getD k ByteArray.empty).size ≤ maxLen := by
  by_cases hk : k < ss.length
  · rw [List.getD, List.getElem?_eq_getElem hk]
    exact hsz _ (List.getElem_mem hk)
  · rw [List.getD, List.getElem?_eq_none (by omega)]
    exact Nat.zero_le _

/-- Behind the box, the store into the map and the call of 'Only': the old memory stands, the new block's first cell reads as laid. -/
theorem ins_after {w wr w1 w2 : World} {cs : Array Value} {v : Value} (hbel : Below w.heap.size w wr) (hlt : w.heap.size < wr.heap.size) (hcs : cs[0]? = some v)
    (hg : (wr.alloc (.cells cs 46)).grownBy w1 (some w.heap.size)) (hb2 : Below w1.heap.size w1 w2) : Below w.heap.size w w2 ∧ w2.cell? ⟨wr.heap.size, 0, none⟩ = some v ∧ wr.heap.size < w2.heap.size := by
  have hs1 := hg.size
  have hs2 := hb2.size
  simp at hs1
  refine ⟨((hbel.alloc hbel.size _).grown hg (by simp; omega) (fun j hj => by cases hj; exact Nat.le_refl _)).trans (hb2.mono (by omega)), ?_, by omega⟩
  rw [hb2.cell (p := ⟨wr.heap.size, 0, none⟩) (by show wr.heap.size < _; omega)]
  rw [World.cell?_of_block (w := wr.alloc (.cells cs 46)) (hg.block wr.heap.size (by simp) (by simp; omega))]
  simp [hcs]

theorem str_inj {s t : ByteArray} (h : Lit.string s.data.toList = .string t.data.toList) : s = t := by
  injection h with h
  cases s; cases t
  simpa using h

/-- The map behind the store has one entry: the key that was there before is the key that was stored. -/
theorem first_key {D : DataW Unit} {s t : ByteArray} {d : DataW Unit} (him : IsMap D) (h1 : Maps.size (D.put (.string s.data.toList) d) = 1) (h : Maps.has D (.string t.data.toList) = true) : t = s := by
  by_cases e : Lit.string t.data.toList = .string s.data.toList
  · exact str_inj e
  · exact str_inj (one_key h1 (by rw [Maps.has_put_other e]; exact h) (Maps.has_put_same (k := .string s.data.toList) him trivial d))

theorem ownsMap_drewN {w : World} {b n : Nat} {D : DataW Unit} (h : w.ownsMap Try.prog 9 ptrElem b n D) : ∀ m, (w.drewN m).ownsMap Try.prog 9 ptrElem b n D
  | 0 => h
  | m + 1 => ownsMap_drewN (w := w.drew) h m

/-- The first key stays among the keys. -/
theorem has_first {D : DataW Unit} {s t : ByteArray} (him : IsMap D) (d : DataW Unit) (h : Maps.has D (.string t.data.toList) = true ∨ t = s) : Maps.has (D.put (.string s.data.toList) d) (.string t.data.toList) = true := by
  by_cases e : Lit.string t.data.toList = .string s.data.toList
  · rw [e]; exact Maps.has_put_same (k := .string s.data.toList) him trivial d
  · rw [Maps.has_put_other e]
    rcases h with h | h
    · exact h
    · exact absurd (by rw [h]) e

theorem ins_empty (a : Addr) (cap : Nat) (w : World) : Calls Try.prog 3 #[.slice (some a) 0 cap] w fun e w' => e = .returned (.bool true) ∧ Below w.heap.size w w' := by
  have hmm := run_make25
  go_enter Try.func3, Try.ntmps3
  go_wp2_with (first
    | (go_at_call 5; refine (bytes5_none _ _ _).mono ?_; rintro e w' ⟨rfl, rfl⟩))
  refine wp_loop_rounds 1 ?_
  rw [rounds_succ]
  go_wp2_with (first
    | (go_at_call 6; refine (only_none _ 0 (.map []) 0 _ (World.ownsMap_made _ _ _ _) rfl rfl).mono ?_; rintro e w' ⟨rfl, rfl⟩))
  refine wp_loop_rounds 1 ?_
  rw [rounds_succ]
  go_wp2
  go_ret
  exact ⟨rfl, (Below.refl _ _).alloc (Nat.le_refl _) _⟩

set_option maxHeartbeats 800000 in
theorem ins_any (b off len cap : Nat) (ss : List ByteArray) (w : World) (hreach : len * 16 ≤ 140737488351232) (hz : len ≤ ss.length) (hb : b < w.heap.size) (hp : 0 < len)
    (hc : ∀ j, j < ss.length → w.cell? ⟨b, off + j, none⟩ = some (.string (ss.getD j ByteArray.empty))) (hsz : ∀ s ∈ ss, s.size ≤ maxLen) :
    Calls Try.prog 3 #[.slice (some ⟨b, off, none⟩) len cap] w fun e w' => e = .returned (.bool true) ∧ Below w.heap.size w w' := by
  have hmm := run_make25
  have hnq := neq26
  go_enter Try.func3, Try.ntmps3
  go_wp2_with (first
    | (go_at_call 5; refine (bytes5_any b off len cap ss _ hreach hz hc).mono ?_; rintro e w' ⟨rfl, r, rfl⟩))
  · go_ret
    exact ⟨rfl, Below.refl _ _⟩
  · go_ret
    exact ⟨rfl, Below.refl _ _⟩
  go_loop [3, 4] (fun z i => ∃ (k : Nat) (n : Int), k ≤ len ∧ i = .int .i64 k ∧ z = .int .i64 n) (fun _ i => len - (intOf i).toNat)
  case atStart => exact ⟨0, 8 * (len : Int), Nat.zero_le _, rfl, rfl⟩
  case round =>
    obtain ⟨k, n, hk, rfl, rfl⟩ := hrel
    by_cases hlt : k < len
    · obtain ⟨s, hs⟩ : ∃ s, s = ss.getD k ByteArray.empty := ⟨_, rfl⟩
      have hcx : w.cell? ⟨b, off + k, none⟩ = some (.string s) := by rw [hs]; exact hc k (by omega)
      clear hs hc
      go_wp2
      · go_ret
        exact ⟨rfl, Below.refl _ _⟩
      · go_round
        case rel => exact ⟨k + 1, _, by omega, by go_num, rfl⟩
        case measure => simp [intOf]; omega
    · go_wp2_with (first
        | (go_at_call 6; refine (only_none _ 0 (.map []) 0 _ (World.ownsMap_made _ _ _ _) rfl rfl).mono ?_; rintro e w' ⟨rfl, rfl⟩))
      go_loopw [8, 9] (fun n i wr => ∃ (k : Nat) (D : DataW Unit) (z : Nat), k ≤ len ∧ i = .int .i64 k ∧ n = .int .i64 z ∧ Maps.size D = z ∧ wr.ownsMap Try.prog 9 ptrElem w.heap.size k D ∧ (0 < k → Maps.has D (.string (ss.getD 0 ByteArray.empty).data.toList) = true) ∧ Below w.heap.size w wr)
        (fun _ i _ => len - (intOf i).toNat)
      case atStart => exact ⟨0, .map [], 0, Nat.zero_le _, rfl, rfl, rfl, World.ownsMap_made _ _ _ _, fun h => absurd h (by omega), (Below.refl _ _).alloc (Nat.le_refl _) _⟩
      case round =>
        obtain ⟨j, D, z, hj, rfl, rfl, hDz, hown, h0, hbel⟩ := hrel
        by_cases hlj : j < len
        · obtain ⟨s, hs⟩ : ∃ s, s = ss.getD j ByteArray.empty := ⟨_, rfl⟩
          have hcx : wr.cell? ⟨b, off + j, none⟩ = some (.string s) := by rw [hs]; exact (hbel.cell hb).trans (hc j (by omega))
          have hkey : keyOf Try.prog 9 (.string s) = some (.string s.data.toList) := keyOf_string_mk Try.underlying9 (by rw [hs]; exact getD_le hsz j)
          have htd := hown.tidy law9
          have him := hown.isMap
          have hzl : z ≤ j := by rw [← hDz]; exact hown.size_le
          have HF : Hid (Maps.has D (.string (ss.getD 0 ByteArray.empty).data.toList) = true ∨ ss.getD 0 ByteArray.empty = s) := by
            by_cases e : j = 0
            · exact Or.inr (by rw [hs, e])
            · exact Or.inl (h0 (by omega))
          have HSP : Hid (Maps.size (D.put (.string s.data.toList) (.lit (.int .i64 (wr.heap.size : Int)))) = if Maps.has D (.string s.data.toList) then z else z + 1) := by rw [← hDz]; exact Maps.size_put htd _
          have HHS : Hid (Maps.has (D.put (.string s.data.toList) (.lit (.int .i64 (wr.heap.size : Int)))) (.string s.data.toList) = true) := Maps.has_put_same him (k := .string s.data.toList) trivial _
          have HAT : Hid ((D.put (.string s.data.toList) (.lit (.int .i64 (wr.heap.size : Int)))).atKey (.string s.data.toList) (.lit (.int .i64 (-1))) = .lit (.int .i64 (wr.heap.size : Int))) := Maps.atKey_put_same (k := .string s.data.toList) him trivial _ _
          have HS0 : Hid (Maps.size (D.put (.string s.data.toList) (.lit (.int .i64 (wr.heap.size : Int)))) = 1 → ss.getD 0 ByteArray.empty = s) := fun h1 => by
            rcases HF.out with h | h
            · exact first_key him h1 h
            · exact h
          have HFP : Hid (Maps.has (D.put (.string s.data.toList) (.lit (.int .i64 (wr.heap.size : Int)))) (.string (ss.getD 0 ByteArray.empty).data.toList) = true) := has_first him _ HF.out
          have hpl : (0 : Int) < (len : Int) := by omega
          have hlw := hown.lt
          clear hs hDz h0 HF
          by_cases hh : Maps.has D (.string s.data.toList) = true
          · by_cases h1 : z = 1
            · subst h1
              go_wp2_with (first
                | (at_lookup; refine wpList_lookup_own_ok _ rfl _ _ 25 rfl 9 26 law9 Try.underlying25 ptrElem (zero26 _) (.lit (.int .i64 (-1))) [] ptrElem_nil w.heap.size j D rfl hown _ _ rfl hkey ?_; intro v ps hv)
                | (at_mapUpdate; refine wpList_mapUpdate_own _ rfl _ _ _ 25 rfl 9 26 law9 Try.underlying25 ptrElem w.heap.size j D rfl (hown.alloc _) (by unfold maxLen; omega) _ _ _ rfl rfl hkey _ [] (ptrElem_mk _) ?_; intro w1 hown1 hgrow1))
              have hone := HSP.out
              rw [hh, if_pos rfl] at hone
              refine (only_one w.heap.size (j + 1) wr.heap.size _ (.string s.data.toList) w1 hown1 hone HHS.out HAT.out).mono ?_
              rintro e w2 ⟨rfl, hown2, hbel2⟩
              have hA := ins_after hbel hlw rfl hgrow1 hbel2
              have hc0 : w2.cell? ⟨b, off, none⟩ = some (.string s) := by rw [← HS0.out hone]; exact (hA.1.cell hb).trans (hc 0 (by omega))
              have hcn := hA.2.1
              have HON : Hid (Maps.size (D.put (.string s.data.toList) (.lit (.int .i64 (wr.heap.size : Int)))) = 1) := hone
              clear hone
              go_wp2
              go_quiet (fail)
              go_wp2
              go_roundw
              case rel => exact ⟨j + 1, _, 1, by omega, by go_num, rfl, HON.out, ownsMap_drewN hown2 _, fun _ => HFP.out, below_drewN hA.1 _⟩
              case measure => simp [intOf]; omega
            · have hz1 : ((z : Int) == 1) = false := by simp; omega
              go_wp2_with (first
                | (at_lookup; refine wpList_lookup_own_ok _ rfl _ _ 25 rfl 9 26 law9 Try.underlying25 ptrElem (zero26 _) (.lit (.int .i64 (-1))) [] ptrElem_nil w.heap.size j D rfl hown _ _ rfl hkey ?_; intro v ps hv)
                | (at_mapUpdate; refine wpList_mapUpdate_own _ rfl _ _ _ 25 rfl 9 26 law9 Try.underlying25 ptrElem w.heap.size j D rfl (hown.alloc _) (by unfold maxLen; omega) _ _ _ rfl rfl hkey _ [] (ptrElem_mk _) ?_; intro w1 hown1 hgrow1))
              have hone := HSP.out
              rw [hh, if_pos rfl] at hone
              refine (only_none w.heap.size (j + 1) _ (z : Int) w1 hown1 (by rw [hone]) hz1).mono ?_
              rintro e w2 ⟨rfl, rfl⟩
              have hA := ins_after hbel hlw rfl hgrow1 (Below.refl _ _)
              have HON : Hid (Maps.size (D.put (.string s.data.toList) (.lit (.int .i64 (wr.heap.size : Int)))) = z) := hone
              clear hone
              go_wp2
              go_roundw
              case rel => exact ⟨j + 1, _, z, by omega, by go_num, rfl, HON.out, hown1, fun _ => HFP.out, hA.1⟩
              case measure => simp [intOf]; omega
          · have hh' : Maps.has D (.string s.data.toList) = false := by simpa using hh
            clear hh
            by_cases h1 : z = 0
            · subst h1
              go_wp2_with (first
                | (at_lookup; refine wpList_lookup_own_ok _ rfl _ _ 25 rfl 9 26 law9 Try.underlying25 ptrElem (zero26 _) (.lit (.int .i64 (-1))) [] ptrElem_nil w.heap.size j D rfl hown _ _ rfl hkey ?_; intro v ps hv)
                | (at_mapUpdate; refine wpList_mapUpdate_own _ rfl _ _ _ 25 rfl 9 26 law9 Try.underlying25 ptrElem w.heap.size j D rfl (hown.alloc _) (by unfold maxLen; omega) _ _ _ rfl rfl hkey _ [] (ptrElem_mk _) ?_; intro w1 hown1 hgrow1))
              have hone := HSP.out
              rw [hh', if_neg (by decide)] at hone
              refine (only_one w.heap.size (j + 1) wr.heap.size _ (.string s.data.toList) w1 hown1 hone HHS.out HAT.out).mono ?_
              rintro e w2 ⟨rfl, hown2, hbel2⟩
              have hA := ins_after hbel hlw rfl hgrow1 hbel2
              have hc0 : w2.cell? ⟨b, off, none⟩ = some (.string s) := by rw [← HS0.out hone]; exact (hA.1.cell hb).trans (hc 0 (by omega))
              have hcn := hA.2.1
              have HON : Hid (Maps.size (D.put (.string s.data.toList) (.lit (.int .i64 (wr.heap.size : Int)))) = 1) := hone
              clear hone
              go_wp2
              go_quiet (fail)
              go_wp2
              go_roundw
              case rel => exact ⟨j + 1, _, 1, by omega, by go_num, by go_num, HON.out, ownsMap_drewN hown2 _, fun _ => HFP.out, below_drewN hA.1 _⟩
              case measure => simp [intOf]; omega
            · have hz1 : (((z : Int) + 1) == 1) = false := by simp; omega
              go_wp2_with (first
                | (at_lookup; refine wpList_lookup_own_ok _ rfl _ _ 25 rfl 9 26 law9 Try.underlying25 ptrElem (zero26 _) (.lit (.int .i64 (-1))) [] ptrElem_nil w.heap.size j D rfl hown _ _ rfl hkey ?_; intro v ps hv)
                | (at_mapUpdate; refine wpList_mapUpdate_own _ rfl _ _ _ 25 rfl 9 26 law9 Try.underlying25 ptrElem w.heap.size j D rfl (hown.alloc _) (by unfold maxLen; omega) _ _ _ rfl rfl hkey _ [] (ptrElem_mk _) ?_; intro w1 hown1 hgrow1))
              have hone := HSP.out
              rw [hh', if_neg (by decide)] at hone
              refine (only_none w.heap.size (j + 1) _ ((z : Int) + 1) w1 hown1 (by rw [hone]; omega) hz1).mono ?_
              rintro e w2 ⟨rfl, rfl⟩
              have hA := ins_after hbel hlw rfl hgrow1 (Below.refl _ _)
              have HON : Hid (Maps.size (D.put (.string s.data.toList) (.lit (.int .i64 (wr.heap.size : Int)))) = z + 1) := hone
              clear hone
              go_wp2
              go_roundw
              case rel => exact ⟨j + 1, _, z + 1, by omega, by go_num, by go_num, HON.out, hown1, fun _ => HFP.out, hA.1⟩
              case measure => simp [intOf]; omega
        · go_wp2
          go_ret
          exact ⟨rfl, hbel⟩

end Go.Proofs.Qxb6629202a
