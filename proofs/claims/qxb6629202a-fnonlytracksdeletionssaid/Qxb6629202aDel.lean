/-
  DERIVED. Seat b6629202a: the walks of 'onlyAnswers' and of 'FnOnlyTracksDeletions'.
-/
import Derived.Test.Qxb6629202aDelParts
namespace Go.Proofs.Qxb6629202a
open Go.RowKit Go.WideMaps Go.Maps

theorem oa_nil (v2 v3 v4 : Value) (w : World) : Calls Try.prog 8 #[.map none, .int .i64 0, v2, v3, v4] w fun e w' => e = .returned (.bool true) ∧ w = w' := by
  go_enter Try.func8, Try.ntmps8
  go_wp2_with (first | (go_at_call 6; refine (only_nil _).mono ?_; rintro e w' ⟨rfl, rfl⟩))
  go_ret
  exact ⟨rfl, rfl⟩

theorem oa_none (b n : Nat) (D : DataW Unit) (z : Int) (v2 v3 v4 : Value) (w : World) (hown : w.ownsMap Try.prog 9 ptrElem b n D) (hz : (Maps.size D : Int) = z) (h1 : (z == 1) = false) :
    Calls Try.prog 8 #[.map (some b), .int .i64 z, v2, v3, v4] w fun e w' => e = .returned (.bool true) ∧ w = w' := by
  have HZ : Hid ((Maps.size D : Int) = z) := hz
  clear hz
  go_enter Try.func8, Try.ntmps8
  go_wp2_with (first | (go_at_call 6; refine (only_none b n D z _ hown HZ.out h1).mono ?_; rintro e w' ⟨rfl, rfl⟩))
  go_ret
  exact ⟨rfl, rfl⟩

set_option maxHeartbeats 400000 in
theorem oa_one (b n c : Nat) (D : DataW Unit) (q : Lit) (bk off len cap l : Nat) (s : ByteArray) (w : World) (hown : w.ownsMap Try.prog 9 ptrElem b n D) (h1 : Maps.size D = 1) (hq : Maps.has D q = true)
    (hc : D.atKey q (.lit (.int .i64 (-1))) = .lit (.int .i64 (c : Int))) (hcc : w.cell? ⟨c, 0, none⟩ = some (.string s)) (hck : w.cell? ⟨bk, off + l, none⟩ = some (.string s)) (hl : l < len) (hcs : c < w.heap.size) (hks : bk < w.heap.size) :
    Calls Try.prog 8 #[.map (some b), .int .i64 1, .pointer (some ⟨c, 0, none⟩), .slice (some ⟨bk, off, none⟩) len cap, .int .i64 l] w fun e w' => e = .returned (.bool true) ∧ w'.ownsMap Try.prog 9 ptrElem b n D ∧ Below w.heap.size w w' := by
  have HC := only_one b n c D q w hown h1 hq hc
  have HCC : Hid (Calls Try.prog 6 #[.map (some b)] w fun e w' => e = .returned (.tuple #[.pointer (some ⟨c, 0, none⟩), .int .i64 1]) ∧ w'.ownsMap Try.prog 9 ptrElem b n D ∧ Below w.heap.size w w') := HC
  clear HC hc hq h1
  have hnq := eql26
  have hl' : (l : Int) < (len : Int) := by omega
  go_enter Try.func8, Try.ntmps8
  go_wp2_with fail
  refine HCC.out.mono ?_
  rintro e w2 ⟨rfl, hown2, hbel2⟩
  have hcc2 : w2.cell? ⟨c, 0, none⟩ = some (.string s) := (hbel2.cell (p := ⟨c, 0, none⟩) hcs).trans hcc
  have hck2 : w2.cell? ⟨bk, off + l, none⟩ = some (.string s) := (hbel2.cell (p := ⟨bk, off + l, none⟩) hks).trans hck
  go_wp2
  go_quiet (fail)
  go_wp2
  go_ret
  exact ⟨rfl, ownsMap_drewN hown2 _, below_drewN hbel2 _⟩

/-- Whatever the count: true. -/
theorem oa_any (b n c : Nat) (D : DataW Unit) (q : Lit) (bk off len cap l : Nat) (z : Int) (s : ByteArray) (w : World) (hown : w.ownsMap Try.prog 9 ptrElem b n D) (hz : (Maps.size D : Int) = z)
    (hone : Maps.size D = 1 → Maps.has D q = true ∧ D.atKey q (.lit (.int .i64 (-1))) = .lit (.int .i64 (c : Int))) (hcc : w.cell? ⟨c, 0, none⟩ = some (.string s)) (hck : w.cell? ⟨bk, off + l, none⟩ = some (.string s)) (hl : l < len) (hcs : c < w.heap.size) (hks : bk < w.heap.size) :
    Calls Try.prog 8 #[.map (some b), .int .i64 z, .pointer (some ⟨c, 0, none⟩), .slice (some ⟨bk, off, none⟩) len cap, .int .i64 l] w fun e w' => e = .returned (.bool true) ∧ w'.ownsMap Try.prog 9 ptrElem b n D ∧ Below w.heap.size w w' := by
  by_cases h1 : z = 1
  · subst h1
    obtain ⟨h2, h3⟩ := hone (by omega)
    exact oa_one b n c D q bk off len cap l s w hown (by omega) h2 h3 hcc hck hl hcs hks
  · refine (oa_none b n D z _ _ _ w hown hz (by simpa using h1)).mono ?_
    rintro e w' ⟨rfl, rfl⟩
    exact ⟨rfl, hown, Below.refl _ _⟩

theorem del_nil (w : World) : Calls Try.prog 4 #[.slice none 0 0] w fun e w' => e = .returned (.bool true) ∧ Below w.heap.size w w' := by
  go_enter Try.func4, Try.ntmps4
  go_wp2_with (first
    | (go_at_call 7; refine (bytes7_none _ _ _).mono ?_; rintro e w' ⟨rfl, rfl⟩))
  refine wp_loop_rounds 1 ?_
  rw [rounds_succ]
  go_wp2_with fail
  refine wp_loop_rounds 1 ?_
  rw [rounds_succ]
  go_wp2_with (first
    | (go_at_call 8; refine (oa_nil _ _ _ _).mono ?_; rintro e w' ⟨rfl, rfl⟩))
  refine wp_loop_rounds 1 ?_
  rw [rounds_succ]
  go_wp2
  go_ret
  exact ⟨rfl, Below.refl _ _⟩

theorem del_empty (a : Addr) (cap : Nat) (w : World) : Calls Try.prog 4 #[.slice (some a) 0 cap] w fun e w' => e = .returned (.bool true) ∧ Below w.heap.size w w' := by
  have hmm := run_make25
  go_enter Try.func4, Try.ntmps4
  go_wp2_with (first
    | (go_at_call 7; refine (bytes7_none _ _ _).mono ?_; rintro e w' ⟨rfl, rfl⟩))
  refine wp_loop_rounds 1 ?_
  rw [rounds_succ]
  go_wp2_with fail
  refine wp_loop_rounds 1 ?_
  rw [rounds_succ]
  go_wp2_with (first
    | (go_at_call 8; refine (oa_none _ 0 (.map []) 0 _ _ _ _ (World.ownsMap_made _ _ _ _) rfl rfl).mono ?_; rintro e w' ⟨rfl, rfl⟩))
  refine wp_loop_rounds 1 ?_
  rw [rounds_succ]
  go_wp2
  go_ret
  exact ⟨rfl, (Below.refl _ _).alloc (Nat.le_refl _) _⟩

set_option maxHeartbeats 1600000 in
theorem del_any (b off len cap : Nat) (ss : List ByteArray) (w : World) (hreach : len * 16 ≤ 140737488351232) (hz : len ≤ ss.length) (hb : b < w.heap.size) (hp : 0 < len)
    (hc : ∀ j, j < ss.length → w.cell? ⟨b, off + j, none⟩ = some (.string (ss.getD j ByteArray.empty))) (hsz : ∀ s ∈ ss, s.size ≤ maxLen) :
    Calls Try.prog 4 #[.slice (some ⟨b, off, none⟩) len cap] w fun e w' => e = .returned (.bool true) ∧ Below w.heap.size w w' := by
  have hmm := run_make25
  go_enter Try.func4, Try.ntmps4
  go_wp2_with (first
    | (go_at_call 7; refine (bytes7_any b off len cap ss _ hreach hz hc).mono ?_; rintro e w' ⟨rfl, r, rfl⟩))
  · go_ret
    exact ⟨rfl, Below.refl _ _⟩
  · go_ret
    exact ⟨rfl, Below.refl _ _⟩
  go_loop [3, 4] (fun z i => ∃ (k : Nat) (n : Int), k ≤ len ∧ i = .int .i64 k ∧ z = .int .i64 n) (fun _ i => len - (intOf i).toNat)
  case atStart => exact ⟨0, 8 * (len : Int), Nat.zero_le _, rfl, rfl⟩
  case round =>
    obtain ⟨k, n, hk, rfl, rfl⟩ := hrel
    by_cases hlt : k < len
    · obtain ⟨s, hs⟩ : ∃ s, s = ss.getD k ByteArray.empty := ⟨_, rfl⟩
      have hcx : w.cell? ⟨b, off + k, none⟩ = some (.string s) := by rw [hs]; exact hc k (by omega)
      clear hs hc
      go_wp2
      · go_ret
        exact ⟨rfl, Below.refl _ _⟩
      · go_round
        case rel => exact ⟨k + 1, _, by omega, by go_num, rfl⟩
        case measure => simp [intOf]; omega
    · go_wp2_with fail
      go_loopw [6, 7, 8] (fun n l i wr => ∃ (k : Nat) (D : DataW Unit) (z : Nat) (lv : Int), k ≤ len ∧ i = .int .i64 k ∧ n = .int .i64 z ∧ l = .int .i64 lv ∧ Maps.size D = z ∧ wr.ownsMap Try.prog 9 ptrElem w.heap.size k D ∧ Filled ss k D ∧ Mem w.heap.size wr D ∧
          (0 < k → ∃ l : Nat, lv = l ∧ Newest ss k l) ∧ Below w.heap.size w wr)
        (fun _ _ i _ => len - (intOf i).toNat)
      case atStart => exact ⟨0, .map [], 0, -1, Nat.zero_le _, rfl, rfl, rfl, rfl, World.ownsMap_made _ _ _ _, filled_zero ss, mem_zero _ _, fun h => absurd h (by omega), (Below.refl _ _).alloc (Nat.le_refl _) _⟩
      case round =>
        obtain ⟨j, D, z, lv, hj, rfl, rfl, rfl, hDz, hown, hfil, hmem, hnew, hbel⟩ := hrel
        by_cases hlj : j < len
        · obtain ⟨s, hs⟩ : ∃ s, s = ss.getD j ByteArray.empty := ⟨_, rfl⟩
          have hcx : wr.cell? ⟨b, off + j, none⟩ = some (.string s) := by rw [hs]; exact (hbel.cell hb).trans (hc j (by omega))
          have hkey : keyOf Try.prog 9 (.string s) = some (.string s.data.toList) := keyOf_string_mk Try.underlying9 (by rw [hs]; exact getD_le hsz j)
          have HK : Hid (keyAt ss j = .string s.data.toList) := by rw [hs]; rfl
          have hzl : z ≤ j := by rw [← hDz]; exact hown.size_le
          have HSP : Hid (Maps.size (D.put (.string s.data.toList) (.lit (.int .i64 (wr.heap.size : Int)))) = if Maps.has D (.string s.data.toList) then z else z + 1) := by rw [← hDz]; exact Maps.size_put (hown.tidy law9) _
          have HFL : Hid (Filled ss (j + 1) (D.put (.string s.data.toList) (.lit (.int .i64 (wr.heap.size : Int))))) := by rw [← HK.out]; exact filled_put hfil hown.isMap _
          have HDZ : Hid (Maps.size D = z) := hDz
          have him := hown.isMap
          have hlw := hown.lt
          clear hs hDz
          by_cases hh : Maps.has D (.string s.data.toList) = true
          · go_wp2_with (first
                | (at_lookup; refine wpList_lookup_own_ok _ rfl _ _ 25 rfl 9 26 law9 Try.underlying25 ptrElem (zero26 _) (.lit (.int .i64 (-1))) [] ptrElem_nil w.heap.size j D rfl hown _ _ rfl hkey ?_; intro v ps hv)
                | (at_mapUpdate; refine wpList_mapUpdate_own _ rfl _ _ _ 25 rfl 9 26 law9 Try.underlying25 ptrElem w.heap.size j D rfl (hown.alloc _) (by unfold maxLen; omega) _ _ _ rfl rfl hkey _ [] (ptrElem_mk _) ?_; intro w1 hown1 hgrow1))
            have hA := ins_after hbel hlw rfl hgrow1 (Below.refl _ _)
            have hm1 := mem_put hmem him hlw rfl hgrow1
            have hone := HSP.out
            rw [hh, if_pos rfl] at hone
            have hnw : 0 < j + 1 → ∃ l : Nat, lv = l ∧ Newest ss (j + 1) l := fun _ => by
              have hj0 : 0 < j := by
                obtain ⟨i, hi, _⟩ := (hfil _).1 hh
                omega
              obtain ⟨l, e1, e2⟩ := hnew hj0
              exact ⟨l, e1, newest_old e2 hfil (by rw [HK.out]; exact hh)⟩
            go_roundw
            case rel => exact ⟨j + 1, _, z, lv, by omega, by go_num, rfl, rfl, hone, hown1, HFL.out, hm1, hnw, hA.1⟩
            case measure => simp [intOf]; omega
          · have hh' : Maps.has D (.string s.data.toList) = false := by simpa using hh
            clear hh
            go_wp2_with (first
                | (at_lookup; refine wpList_lookup_own_ok _ rfl _ _ 25 rfl 9 26 law9 Try.underlying25 ptrElem (zero26 _) (.lit (.int .i64 (-1))) [] ptrElem_nil w.heap.size j D rfl hown _ _ rfl hkey ?_; intro v ps hv)
                | (at_mapUpdate; refine wpList_mapUpdate_own _ rfl _ _ _ 25 rfl 9 26 law9 Try.underlying25 ptrElem w.heap.size j D rfl (hown.alloc _) (by unfold maxLen; omega) _ _ _ rfl rfl hkey _ [] (ptrElem_mk _) ?_; intro w1 hown1 hgrow1))
            have hA := ins_after hbel hlw rfl hgrow1 (Below.refl _ _)
            have hm1 := mem_put hmem him hlw rfl hgrow1
            have hone := HSP.out
            rw [hh', if_neg (by decide)] at hone
            have hnw : 0 < j + 1 → ∃ l : Nat, (j : Int) = l ∧ Newest ss (j + 1) l := fun _ => ⟨j, rfl, newest_new hfil (by rw [HK.out]; exact hh')⟩
            go_roundw
            case rel => exact ⟨j + 1, _, z + 1, j, by omega, by go_num, by go_num, rfl, hone, hown1, HFL.out, hm1, hnw, hA.1⟩
            case measure => simp [intOf]; omega
        · obtain rfl : j = len := by omega
          obtain ⟨l, rfl, hnl⟩ := hnew hp
          clear hnew
          have hll : l < j := hnl.1
          obtain ⟨s, hs⟩ : ∃ s, s = ss.getD l ByteArray.empty := ⟨_, rfl⟩
          have HK : Hid (keyAt ss l = .string s.data.toList) := by rw [hs]; rfl
          have hcx : wr.cell? ⟨b, off + l, none⟩ = some (.string s) := by rw [hs]; exact (hbel.cell hb).trans (hc l (by omega))
          have hkey : keyOf Try.prog 9 (.string s) = some (.string s.data.toList) := keyOf_string_mk Try.underlying9 (by rw [hs]; exact getD_le hsz l)
          have HCX : Hid (w.cell? ⟨b, off + l, none⟩ = some (.string s)) := by rw [hs]; exact hc l (by omega)
          clear hs
          have hhas : Maps.has D (.string s.data.toList) = true := by rw [← HK.out]; exact (hfil _).2 ⟨l, hll, rfl⟩
          obtain ⟨c, hc1, hc2, hc3, hc4⟩ := hmem s hhas
          obtain ⟨v, ps, hrun, hv⟩ := hown.lookup law9 Try.underlying25 (zero26 _) ptrElem_nil hkey
          rw [hc3] at hv
          obtain ⟨a, rfl⟩ := ptrElem_inv hv
          have hav := ptrElem_at hv
          subst hav
          have HST : Hid (Struck ss j l c 0 D) := struck_zero hfil hll (by rw [HK.out]; exact hc3)
          have HDZ : Hid (Maps.size D = z) := hDz
          have HNL : Hid (Newest ss j l) := hnl
          have hks : b < wr.heap.size := Nat.lt_of_lt_of_le hb hbel.size
          clear hv hc3 hhas hDz hnl hfil hmem
          go_wp2_with fail
          refine (oa_any w.heap.size j c D (.string s.data.toList) b off j cap l (z : Int) s _ hown (by rw [HDZ.out]) (fun h1 => by rw [← HK.out]; exact struck_one HNL.out HST.out (keys_lit hown) h1) hc4 hcx hll hc2 hks).mono ?_
          rintro e w2 ⟨rfl, hown2, hbel2⟩
          have hc42 : w2.cell? ⟨c, 0, none⟩ = some (.string s) := (hbel2.cell (p := ⟨c, 0, none⟩) hc2).trans hc4
          have hcw : c < w2.heap.size := Nat.lt_of_lt_of_le hc2 hbel2.size
          have hblw := hbel.trans (hbel2.mono hbel.size)
          clear hc4 hc2 hown hbel hbel2 hks hrun hkey hcx
          obtain ⟨wo, rfl⟩ : ∃ wo : World, wo = wr := ⟨_, rfl⟩
          go_wp2_with fail
          go_loopw [6, 13] (fun n i wr => ∃ (k : Nat) (D : DataW Unit) (z : Nat), k ≤ j ∧ i = .int .i64 k ∧ n = .int .i64 z ∧ Maps.size D = z ∧ wr.ownsMap Try.prog 9 ptrElem w.heap.size j D ∧ Struck ss j l c k D ∧ wr.cell? ⟨c, 0, none⟩ = some (.string s) ∧ c < wr.heap.size ∧ Below w.heap.size w wr)
            (fun _ i _ => j - (intOf i).toNat)
          case atStart => exact ⟨0, D, z, Nat.zero_le _, rfl, rfl, HDZ.out, hown2, HST.out, hc42, hcw, hblw⟩
          case round =>
            clear hc42 hcw hblw hown2 HDZ HST
            obtain ⟨i, D, z, hi, rfl, rfl, hDz, hown, hst, hc4, hc2, hbel⟩ := hrel
            have hcx : wr.cell? ⟨b, off + l, none⟩ = some (.string s) := (hbel.cell hb).trans HCX.out
            have hks : b < wr.heap.size := Nat.lt_of_lt_of_le hb hbel.size
            by_cases hli : i < j
            · obtain ⟨t, ht⟩ : ∃ t, t = ss.getD i ByteArray.empty := ⟨_, rfl⟩
              have HT : Hid (keyAt ss i = .string t.data.toList) := by rw [ht]; rfl
              have hcy : wr.cell? ⟨b, off + i, none⟩ = some (.string t) := by rw [ht]; exact (hbel.cell hb).trans (hc i (by omega))
              have hkey : keyOf Try.prog 9 (.string t) = some (.string t.data.toList) := keyOf_string_mk Try.underlying9 (by rw [ht]; exact getD_le hsz i)
              have hzl : z ≤ j := by rw [← hDz]; exact hown.size_le
              have hsd := Maps.size_del (k := .string t.data.toList) (hown.tidy law9)
              rw [hDz] at hsd
              clear ht
              by_cases hh : Maps.has D (.string t.data.toList) = true
              · rw [if_pos hh] at hsd
                have hz1 : 1 ≤ z := by omega
                have HSD : Hid (Maps.size (D.del (.string t.data.toList)) + 1 = z) := hsd
                have HST : Hid (Struck ss j l c (i + 1) (D.del (.string t.data.toList))) := by rw [← HT.out]; exact struck_del HNL.out hst
                clear hsd hDz hst
                go_wp2_with (first
                  | (at_lookup; refine wpList_lookup_own_ok _ rfl _ _ 25 rfl 9 26 law9 Try.underlying25 ptrElem (zero26 _) (.lit (.int .i64 (-1))) [] ptrElem_nil w.heap.size j D rfl hown _ _ rfl hkey ?_; intro v ps hv)
                  | (at_delete; refine wpList_delete_own _ rfl _ _ 25 9 rfl 26 law9 Try.underlying25 ptrElem w.heap.size j D rfl hown _ _ rfl hkey ?_; intro w1 hown1 hturn1))
                have hg1 := hturn1.grown
                have hbel1 := hbel.grown hg1 hbel.size (fun q hq => by cases hq; exact Nat.le_refl _)
                have hc41 : w1.cell? ⟨c, 0, none⟩ = some (.string s) := (World.cell?_of_block (w := wr) (hg1.block c hc2 (by simp; omega))).trans hc4
                have hcx1 : w1.cell? ⟨b, off + l, none⟩ = some (.string s) := (hbel1.cell hb).trans HCX.out
                have hsz1 := hg1.size
                refine (oa_any w.heap.size j c _ (.string s.data.toList) b off j cap l ((z : Int) - 1) s _ hown1 (by have := HSD.out; omega) (fun h1 => by rw [← HK.out]; exact struck_one HNL.out HST.out (keys_lit hown1) h1) hc41 hcx1 hll (by omega) (by omega)).mono ?_
                rintro e w2 ⟨rfl, hown2, hbel2⟩
                have hc42 : w2.cell? ⟨c, 0, none⟩ = some (.string s) := (hbel2.cell (p := ⟨c, 0, none⟩) (by show c < _; omega)).trans hc41
                have hsz2 := hbel2.size
                have hblw := hbel1.trans (hbel2.mono hbel1.size)
                go_wp2
                go_roundw
                case rel => exact ⟨i + 1, _, z - 1, by omega, by go_num, by go_num, by have := HSD.out; omega, hown2, HST.out, hc42, by omega, hblw⟩
                case measure => simp [intOf]; omega
              · have hh' : Maps.has D (.string t.data.toList) = false := by simpa using hh
                have HST : Hid (Struck ss j l c (i + 1) D) := struck_none HNL.out hst (by rw [HT.out]; exact hh')
                have HDZ : Hid (Maps.size D = z) := hDz
                clear hh hsd hst hDz
                go_wp2_with (first
                  | (at_lookup; refine wpList_lookup_own_ok _ rfl _ _ 25 rfl 9 26 law9 Try.underlying25 ptrElem (zero26 _) (.lit (.int .i64 (-1))) [] ptrElem_nil w.heap.size j D rfl hown _ _ rfl hkey ?_; intro v ps hv))
                refine (oa_any w.heap.size j c _ (.string s.data.toList) b off j cap l (z : Int) s _ hown (by rw [HDZ.out]) (fun h1 => by rw [← HK.out]; exact struck_one HNL.out HST.out (keys_lit hown) h1) hc4 hcx hll hc2 hks).mono ?_
                rintro e w2 ⟨rfl, hown2, hbel2⟩
                have hc42 : w2.cell? ⟨c, 0, none⟩ = some (.string s) := (hbel2.cell (p := ⟨c, 0, none⟩) hc2).trans hc4
                have hsz2 := hbel2.size
                have hblw := hbel.trans (hbel2.mono hbel.size)
                go_wp2
                go_roundw
                case rel => exact ⟨i + 1, _, z, by omega, by go_num, rfl, HDZ.out, hown2, HST.out, hc42, by omega, hblw⟩
                case measure => simp [intOf]; omega
            · obtain rfl : i = j := by omega
              have hz0 : z = 0 := by rw [← hDz]; exact struck_end hst (hown.tidy law9) (keys_lit hown)
              subst hz0
              clear hst hDz
              go_wp2
              go_ret
              exact ⟨rfl, hbel⟩


end Go.Proofs.Qxb6629202a
