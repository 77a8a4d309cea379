/-
  DERIVED. Seat b6629377a: the walk of 'FnFramedLeavesTheWritesWhole'.
-/
import Derived.Test.Qxb6629377aHead
namespace Go.Proofs.Qxb6629377a
open Go.RowKit

/-- The front of a word. -/
theorem WordAt.front {B : Nat} {w : World} {A : Option Addr} {C : Nat} {F L : List UInt8} (h : WordAt B w A C (F ++ L)) (hC : (F ++ L).length ≤ C) :
    (∀ w', (Instr.slice 22 (.slice A (F ++ L).length C) none (some (.int .i64 F.length)) none).run Try.prog w' = .ok (.slice (if C = 0 then A else A.map (·.add 0)) F.length C) w') ∧ WordAt B w (if C = 0 then A else A.map (·.add 0)) C F := by
  rw [List.length_append] at hC
  obtain ⟨h1, b, off, h2, h3⟩ := h
  refine ⟨fun w' => ?_, fun e => ?_, b, off, fun hp => ?_, fun j hj => ?_⟩
  · rw [run_slice_h w' 22 A (F ++ L).length C Try.underlying22 .i64 (F.length : Int) (by omega) (by omega)]
    simp [Result.andThen, sliced, go_sem]
  · have hA : A = none := by
      split at e
      · exact e
      · simpa using e
    have := h1 hA
    exact ⟨(List.append_eq_nil_iff.1 this.1).1, this.2⟩
  · obtain ⟨rfl, hb⟩ := h2 (by rw [List.length_append]; omega)
    refine ⟨?_, hb⟩
    rw [if_neg (by omega)]
    simp [Addr.add]
  · have := h3 j (by rw [List.length_append]; omega)
    rwa [List.getD, List.getElem?_append_left hj, ← List.getD] at this

set_option maxHeartbeats 6400000 in
set_option maxRecDepth 100000 in
theorem leaves_any (n zwh zr zx : Int) (A2 A4 A5 A6 : Option Addr) (c2 c4 c5 c6 : Nat) (D F : List UInt8) (zs : List Int) (a : Nat) (hza : zs.length = a) (Ls : List (List UInt8)) (w : World)
    (h2 : WordAt w.heap.size w A2 c2 D) (h4 : IntsAt w.heap.size w A4 zs) (h4c : A4 = none → c4 = 0) (h5 : WordsAt w.heap.size w A5 Ls) (h5c : A5 = none → c5 = 0) (h6 : WordAt w.heap.size w A6 c6 F)
    (hd : D.length ≤ 140737488355328) (ha : a ≤ 140737488355328) (hl : Ls.length ≤ 140737488355328) (hf : F.length ≤ 140737488355328)  :
    Calls Try.prog 4 #[.int .i64 n, .int .i64 zwh, .slice A2 D.length c2, .int .i64 zr, .slice A4 a c4, .slice A5 Ls.length c5, .slice A6 F.length c6, .int .i64 zx] w fun e w' => e = .returned (.bool true) ∧ Below w.heap.size w w' := by
  have H2 : Hid (WordAt w.heap.size w A2 c2 D) := h2
  have H4 : Hid (IntsAt w.heap.size w A4 zs) := h4
  have H5 : Hid (WordsAt w.heap.size w A5 Ls) := h5
  have H6 : Hid (WordAt w.heap.size w A6 c6 F) := h6
  have HZA : Hid (zs.length = a) := hza
  clear h2 h4 h5 h6 hza
  go_enter Try.func4, Try.ntmps4
  go_wp2_with fail
  refine (bytes16_any w.heap.size _ _ _ _ A2 A4 A5 A6 D.length c2 a c4 c5 F.length c6 Ls w hd ha hf hl H5.out).mono ?_
  rintro e w' ⟨rfl, r, rfl, hr⟩
  cases r with
  | false =>
    go_wp2
    go_ret
    exact ⟨rfl, Below.refl _ _⟩
  | true =>
    have hb := hr rfl
    clear hr hd ha hl hf
    have HB : Hid (D.length + a + Ls.length + F.length + sumW Ls Ls.length ≤ 1048576) := hb
    have t1 : decide ((1048576 : Int) < (D.length : Int)) = false := decide_eq_false (by omega)
    have t2 : decide ((1048576 : Int) < (F.length : Int)) = false := decide_eq_false (by omega)
    have t3 : decide ((1048576 : Int) < (a : Int)) = false := decide_eq_false (by omega)
    have t4 : decide ((1048576 : Int) < (Ls.length : Int)) = false := decide_eq_false (by omega)
    have t5 : decide ((1048576 : Int) < (D.length : Int) + (F.length : Int)) = false := decide_eq_false (by omega)
    by_cases hq1 : (1048576 : Int) < (D.length : Int) + (F.length : Int) + 8 * (a : Int)
    · have t6 : decide ((1048576 : Int) < (D.length : Int) + (F.length : Int) + 8 * (a : Int)) = true := decide_eq_true hq1
      go_wp2
      go_ret
      exact ⟨rfl, Below.refl _ _⟩
    have t6 : decide ((1048576 : Int) < (D.length : Int) + (F.length : Int) + 8 * (a : Int)) = false := decide_eq_false hq1
    by_cases hq2 : (1048576 : Int) < (D.length : Int) + (F.length : Int) + 8 * (a : Int) + 24 * (Ls.length : Int)
    · have t7 : decide ((1048576 : Int) < (D.length : Int) + (F.length : Int) + 8 * (a : Int) + 24 * (Ls.length : Int)) = true := decide_eq_true hq2
      go_wp2
      go_ret
      exact ⟨rfl, Below.refl _ _⟩
    have t7 : decide ((1048576 : Int) < (D.length : Int) + (F.length : Int) + 8 * (a : Int) + 24 * (Ls.length : Int)) = false := decide_eq_false hq2
    go_wp2_with fail
    go_loop [18, 19] (fun z i => ∃ (k m : Nat), k ≤ Ls.length ∧ i = .int .i64 k ∧ z = .int .i64 m ∧ m = sumW Ls k) (fun _ i => Ls.length - (intOf i).toNat)
    case atStart => exact ⟨0, 0, Nat.zero_le _, rfl, rfl, rfl⟩
    case round =>
      obtain ⟨k, m, hk, rfl, rfl, hme⟩ := hrel
      have HM : Hid (m = sumW Ls k) := hme
      have hsm := sumW_mono Ls hk
      have hmb : m ≤ 1048576 := by omega
      clear hme
      by_cases hlt : k < Ls.length
      · obtain ⟨b, off, hA, hrr⟩ := H5.out.word
        obtain ⟨rfl, _⟩ := hA (by omega)
        obtain ⟨A', C, hcx⟩ := hrr k hlt
        obtain ⟨x, hx⟩ : ∃ x, x = (Ls.getD k []).length := ⟨_, rfl⟩
        have HS : Hid (sumW Ls (k + 1) = sumW Ls k + x) := by rw [hx]; rfl
        have hsm1 : sumW Ls (k + 1) ≤ sumW Ls Ls.length := sumW_mono Ls hlt
        have hxb : x ≤ 1048576 := by have := HS.out; omega
        rw [← hx] at hcx
        clear hx hrr hA hsm1 hsm
        go_wp2
        · go_ret
          exact ⟨rfl, Below.refl _ _⟩
        · go_round
          case rel => exact ⟨k + 1, m + x, by omega, by go_num, by go_num, by rw [HS.out, HM.out]⟩
          case measure => simp [intOf]; omega
      · obtain rfl : k = Ls.length := by omega
        clear hsm hk hlt
        by_cases hg2 : a = Ls.length
        case neg =>
          have q0 : ((a : Int) != (Ls.length : Int)) = true := bne_iff_ne.2 (by omega)
          go_wp2_with fail
          all_goals
            go_ret
            exact ⟨rfl, Below.refl _ _⟩
        subst hg2
        by_cases hg : 0 ≤ zr ∧ zr ≤ 65536 ∧ 0 ≤ zx ∧ zx ≤ 65536 ∧ 0 ≤ zwh ∧ zwh ≤ (D.length : Int)
        · obtain ⟨g1, g2, g3, g4, g5, g6⟩ := hg
          obtain ⟨rr, rfl⟩ : ∃ rr : Nat, zr = (rr : Int) := ⟨zr.toNat, by omega⟩
          obtain ⟨ex, rfl⟩ : ∃ ex : Nat, zx = (ex : Int) := ⟨zx.toNat, by omega⟩
          obtain ⟨wh, rfl⟩ : ∃ wh : Nat, zwh = (wh : Int) := ⟨zwh.toNat, by omega⟩
          have q1 : decide ((rr : Int) < 0) = false := decide_eq_false (by omega)
          have q2 : decide ((65536 : Int) < (rr : Int)) = false := decide_eq_false (by omega)
          have q3 : decide ((ex : Int) < 0) = false := decide_eq_false (by omega)
          have q4 : decide ((65536 : Int) < (ex : Int)) = false := decide_eq_false (by omega)
          have q5 : decide ((wh : Int) < 0) = false := decide_eq_false (by omega)
          have q6 : decide (D.length < wh) = false := decide_eq_false (by omega)
          go_wp2_with fail
          obtain ⟨ats, hats⟩ : ∃ ats : List Nat, ats = zs.map Int.toNat := ⟨_, rfl⟩
          have HATS : Hid (ats = zs.map Int.toNat) := hats
          clear hats
          go_loop [20, 21] (fun z i => ∃ (k q : Nat), k ≤ Ls.length ∧ i = .int .i64 k ∧ z = .int .i64 q ∧ q = fr wh ats k ∧ (∀ r, r < k → zs.getD r 0 = ((ats.getD r 0 : Nat) : Int) ∧ fr wh ats r ≤ fr wh ats (r + 1) ∧ fr wh ats (r + 1) ≤ D.length)) (fun _ i => Ls.length - (intOf i).toNat)
          case atStart => exact ⟨0, wh, Nat.zero_le _, rfl, rfl, rfl, fun r hr => absurd hr (by omega)⟩
          case round =>
            obtain ⟨k, q, hk, rfl, rfl, hq, hdone⟩ := hrel
            have HQ : Hid (q = fr wh ats k) := hq
            have HD : Hid (∀ r, r < k → zs.getD r 0 = ((ats.getD r 0 : Nat) : Int) ∧ fr wh ats r ≤ fr wh ats (r + 1) ∧ fr wh ats (r + 1) ≤ D.length) := hdone
            clear hq hdone
            by_cases hlt : k < Ls.length
            · obtain ⟨_, b4, o4, hA4, hc4⟩ := H4.out
              obtain ⟨rfl, _⟩ := hA4 (by have := HZA.out; omega)
              have e4 := hc4 k (by have := HZA.out; omega)
              obtain ⟨y, hy⟩ : ∃ y, y = zs.getD k 0 := ⟨_, rfl⟩
              have HY : Hid (y = zs.getD k 0) := hy
              rw [← hy] at e4
              clear hy hc4 hA4
              by_cases hy1 : y < (q : Int)
              · have s1 : decide (y < (q : Int)) = true := decide_eq_true hy1
                go_wp2
                go_ret
                exact ⟨rfl, Below.refl _ _⟩
              have s1 : decide (y < (q : Int)) = false := decide_eq_false hy1
              by_cases hy2 : (D.length : Int) < y
              · have s2 : decide ((D.length : Int) < y) = true := decide_eq_true hy2
                go_wp2
                go_ret
                exact ⟨rfl, Below.refl _ _⟩
              have s2 : decide ((D.length : Int) < y) = false := decide_eq_false hy2
              obtain ⟨yy, hyy⟩ : ∃ yy : Nat, y = (yy : Int) := ⟨y.toNat, by omega⟩
              have HYY : Hid (ats.getD k 0 = yy) := by
                have h1 : k < zs.length := by have := HZA.out; omega
                have h2 := HY.out
                rw [List.getD, List.getElem?_eq_getElem h1] at h2
                rw [HATS.out, List.getD, List.getElem?_map, List.getElem?_eq_getElem h1]
                show (zs[k]).toNat = yy
                have h3 : y = zs[k] := h2
                omega
              go_wp2_with fail
              go_round
              case rel =>
                refine ⟨k + 1, yy, by omega, by go_num, rfl, HYY.out.symm, fun r hr => ?_⟩
                by_cases e : r = k
                · subst e
                  have h1 : fr wh ats (r + 1) = yy := HYY.out
                  rw [h1, ← HQ.out, HYY.out, ← HY.out]
                  exact ⟨hyy, by omega, by omega⟩
                · exact HD.out r (by omega)
              case measure => simp [intOf]; omega
            · obtain rfl : k = Ls.length := by omega
              have hord : InOrder D wh ats Ls.length := ⟨by omega, fun r hr => (HD.out r hr).2⟩
              have HORD : Hid (InOrder D wh ats Ls.length) := hord
              have HZ : Hid (∀ k, k < zs.length → zs.getD k 0 = ((ats.getD k 0 : Nat) : Int)) := fun r hr => (HD.out r (by have := HZA.out; omega)).1
              have HLF : Hid ((F ++ logForm D wh ats Ls).length = F.length + (D.length - wh) + sumW Ls Ls.length) := by
                rw [List.length_append, logForm_len Ls hord]
                exact (Nat.add_assoc _ _ _).symm
              have bD : D.length ≤ 1048576 := by omega
              have bF : F.length ≤ 1048576 := by omega
              have bL : Ls.length + sumW Ls Ls.length ≤ 1048576 := by omega
              have BD : Hid (D.length ≤ 1048576) := bD
              have BF : Hid (F.length ≤ 1048576) := bF
              have BL : Hid (Ls.length + sumW Ls Ls.length ≤ 1048576) := bL
              have BR : Hid (rr ≤ 65536) := show _ ≤ _ by omega
              have BX : Hid (ex ≤ 65536) := show _ ≤ _ by omega
              have BW : Hid (wh ≤ D.length) := show _ ≤ _ by omega
              have H4C : Hid (A4 = none → c4 = 0) := h4c
              have H5C : Hid (A5 = none → c5 = 0) := h5c
              clear hord bD bF bL hlt hk HQ HD h4c h5c hb HB
              go_wp2_with fail
              refine (roomy_any A2 c2 D rr w H2.out BD.out BR.out).mono ?_
              rintro e w1 ⟨vd, rfl, hown1, hb1⟩
              obtain ⟨Ad, cd, rfl, hcd1, hcd2, hwd1⟩ := own_word hown1
              have HO1 : Hid (Own w.heap.size w1 (.slice Ad D.length cd) D) := hown1
              have HB1 : Hid (Below w.heap.size w w1) := hb1
              have HI1 : Hid (IntsAt w1.heap.size w1 A4 zs) := H4.out.next hb1
              have HW1 : Hid (WordsAt w1.heap.size w1 A5 Ls) := H5.out.next hb1
              have HF1 : Hid (WordAt w1.heap.size w1 A6 c6 F) := H6.out.next hb1
              clear hown1 hb1 hcd1 hcd2 hwd1 H2 H4 H5 H6
              go_wp2_with fail
              refine (copyInts_at Ls.length A4 c4 zs w1 HZA.out HI1.out (by have := BL.out; omega) H4C.out).mono ?_
              rintro e w2 ⟨A4', c4', rfl, hi2, hb2⟩
              have HO2 : Hid (Own w.heap.size w2 (.slice Ad D.length cd) D) := own_keep HO1.out (Nat.le_refl _) hb2
              have HB2 : Hid (Below w.heap.size w w2) := HB1.out.trans (hb2.mono HB1.out.size)
              have HI2 : Hid (IntsAt w2.heap.size w2 A4' zs) := hi2
              have HW2 : Hid (WordsAt w2.heap.size w2 A5 Ls) := HW1.out.next hb2
              have HF2 : Hid (WordAt w2.heap.size w2 A6 c6 F) := HF1.out.next hb2
              have HS12 : Hid (w1.heap.size ≤ w2.heap.size) := hb2.size
              clear hi2 hb2 HB1 HI1 HW1 HF1
              go_wp2_with fail
              refine (copyNested_any A5 c5 Ls w2 HW2.out (by have := BL.out; omega) (by have := BL.out; omega) H5C.out).mono ?_
              rintro e w3 ⟨v3, rfl, ⟨A5', c5', rfl, hw3⟩, hb3⟩
              have HO3 : Hid (Own w.heap.size w3 (.slice Ad D.length cd) D) := own_keep HO2.out (Nat.le_refl _) hb3
              have HB3 : Hid (Below w.heap.size w w3) := HB2.out.trans (hb3.mono HB2.out.size)
              have HI3 : Hid (IntsAt w3.heap.size w3 A4' zs) := HI2.out.next hb3
              have HW3 : Hid (WordsAt w3.heap.size w3 A5' Ls) := hw3
              have HF3 : Hid (WordAt w3.heap.size w3 A6 c6 F) := HF2.out.next hb3
              have HS13 : Hid (w1.heap.size ≤ w3.heap.size) := Nat.le_trans HS12.out hb3.size
              clear hw3 hb3 HO2 HB2 HI2 HW2 HF2 HS12
              go_wp2_with fail
              refine (copyBytes_any A6 c6 F w3 HF3.out (by have := BF.out; omega)).mono ?_
              rintro e w4 ⟨v4, rfl, hown4, hb4⟩
              obtain ⟨A6', c6', rfl, _, _, hwd4⟩ := own_word hown4
              have HO4 : Hid (Own w.heap.size w4 (.slice Ad D.length cd) D) := own_keep HO3.out (Nat.le_refl _) hb4
              have HB4 : Hid (Below w.heap.size w w4) := HB3.out.trans (hb4.mono HB3.out.size)
              have HI4 : Hid (IntsAt w4.heap.size w4 A4' zs) := HI3.out.next hb4
              have HW4 : Hid (WordsAt w4.heap.size w4 A5' Ls) := HW3.out.next hb4
              have HF4 : Hid (WordAt w4.heap.size w4 A6' c6' F) := hwd4
              have HS14 : Hid (w1.heap.size ≤ w4.heap.size) := Nat.le_trans HS13.out hb4.size
              have HG4 : Hid (Own w3.heap.size w4 (.slice A6' F.length c6') F) := hown4
              have HS13b : Hid (w1.heap.size ≤ w3.heap.size) := HS13.out
              clear hown4 hwd4 hb4 HO3 HB3 HI3 HW3 HF3 HS13
              go_wp2_with fail
              refine (logForm_any none Ad A4' A5' 0 cd c4' c5' [] D wh zs ats Ls w4 ⟨fun _ => ⟨rfl, rfl⟩, 0, 0, fun h => absurd h (by simp), fun j hj => absurd hj (by simp)⟩ (data_of_own wh HO4.out) HI4.out HW4.out HZA.out HZ.out HORD.out (by have := BD.out; have := BL.out; simp; omega) BD.out (by have := BL.out; omega)).mono ?_
              rintro e w5 ⟨v5, rfl, hown5, hb5⟩
              rw [List.nil_append] at hown5
              have HN5 : Hid (Own w4.heap.size w5 v5 (logForm D wh ats Ls)) := hown5
              have HO5 : Hid (Own w.heap.size w5 (.slice Ad D.length cd) D) := own_keep HO4.out (Nat.le_refl _) hb5
              have HB5 : Hid (Below w.heap.size w w5) := HB4.out.trans (hb5.mono HB4.out.size)
              have HI5 : Hid (IntsAt w5.heap.size w5 A4' zs) := HI4.out.next hb5
              have HW5 : Hid (WordsAt w5.heap.size w5 A5' Ls) := HW4.out.next hb5
              have HG5 : Hid (Own w3.heap.size w5 (.slice A6' F.length c6') F) := own_keep HG4.out (Nat.le_refl _) hb5
              have HS15 : Hid (w1.heap.size ≤ w5.heap.size) := Nat.le_trans HS14.out hb5.size
              clear hown5 hb5 HO4 HB4 HI4 HW4 HF4 HG4
              go_wp2_with fail
              refine (new_any n wh Ad D.length cd A4' A5' c4' c5' zs ats Ls w5 HZA.out (by have := BL.out; omega) HZ.out HI5.out HW5.out).mono ?_
              rintro e w6 ⟨v6, rfl, ⟨AL, cL, rfl, hlg6⟩, hb6⟩
              have HN6 : Hid (Own w4.heap.size w6 v5 (logForm D wh ats Ls)) := own_keep HN5.out (Nat.le_refl _) hb6
              have HO6 : Hid (Own w.heap.size w6 (.slice Ad D.length cd) D) := own_keep HO5.out (Nat.le_refl _) hb6
              have HB6 : Hid (Below w.heap.size w w6) := HB5.out.trans (hb6.mono HB5.out.size)
              have HG6 : Hid (Own w3.heap.size w6 (.slice A6' F.length c6') F) := own_keep HG5.out (Nat.le_refl _) hb6
              have HL6 : Hid (LargeAt w6.heap.size w6 AL ats Ls) := hlg6
              have HS16 : Hid (w1.heap.size ≤ w6.heap.size) := Nat.le_trans HS15.out hb6.size
              clear hlg6 hb6 HO5 HB5 HI5 HW5 HG5 HN5
              go_wp2_with fail
              obtain ⟨w7, hw7⟩ : ∃ w7 : World, w7 = w6.alloc (.cells #[.int .i64 n, .int .i64 wh, .slice Ad D.length cd, .slice AL Ls.length cL] 33 (0, 0)) := ⟨_, rfl⟩
              rw [← hw7]
              have hb7 : Below w6.heap.size w6 w7 := by rw [hw7]; exact (Below.refl _ _).alloc (Nat.le_refl _) _
              have hs7 : w6.heap.size < w7.heap.size := by rw [hw7]; simp
              have hx7 : w7.heap[w6.heap.size]? = some (.cells #[.int .i64 n, .int .i64 wh, .slice Ad D.length cd, .slice AL Ls.length cL] 33 (0, 0)) := by rw [hw7]; exact heap_alloc_new w6 _
              have HN7 : Hid (Own w4.heap.size w7 v5 (logForm D wh ats Ls)) := own_keep HN6.out (Nat.le_refl _) hb7
              have HO7 : Hid (Own w.heap.size w7 (.slice Ad D.length cd) D) := own_keep HO6.out (Nat.le_refl _) hb7
              have HB7 : Hid (Below w.heap.size w w7) := HB6.out.trans (hb7.mono HB6.out.size)
              have HG7 : Hid (Own w3.heap.size w7 (.slice A6' F.length c6') F) := own_keep HG6.out (Nat.le_refl _) hb7
              have HL7 : Hid (LargeAt w7.heap.size w7 AL ats Ls) := HL6.out.next hb7
              have hF7 : WordAt w7.heap.size w7 A6' c6' F := by
                obtain ⟨A, C, hv, _, _, hwd⟩ := own_word HG7.out
                injection hv with e1 _ e2
                subst e1; subst e2
                exact hwd
              refine (framed_any w.heap.size n wh Ad AL A6' cd cL c6' ex D F ats Ls w7 HO7.out HL7.out hF7 HORD.out BF.out BD.out BL.out BX.out).mono ?_
              rintro e w8 ⟨v8, rfl, ⟨Ag, Cg, rfl, hcg, hcm, hwg⟩, hgr, hdat, hbl⟩
              have hgd : ∀ g, Ad.map (·.block) = some g → w.heap.size ≤ g ∧ g < w1.heap.size := fun g hg => by
                have hv : (Value.slice Ad D.length cd).ownBlock = some g := by
                  cases Ad with
                  | none => cases hg
                  | some _ => exact hg
                exact World.ownsRow.lt HO1.out g hv
              have hs16 := HS16.out
              have hx8 : w8.heap[w6.heap.size]? = some (.cells #[.int .i64 n, .int .i64 wh, .slice Ad D.length cd, .slice AL Ls.length cL] 33 (0, 0)) :=
                (hgr.block _ hs7 (fun e => by have := (hgd _ e.symm).2; omega)).trans hx7
              have HX8 : Hid (w8.heap[w6.heap.size]? = some (.cells #[.int .i64 n, .int .i64 wh, .slice Ad D.length cd, .slice AL Ls.length cL] 33 (0, 0))) := hx8
              have HN8 : Hid (Own w4.heap.size w8 v5 (logForm D wh ats Ls)) := own_beside HN7.out hgr (fun g hg => Nat.lt_of_lt_of_le (hgd g hg).2 HS14.out)
              have HG8 : Hid (Own w3.heap.size w8 (.slice A6' F.length c6') F) := own_beside HG7.out hgr (fun g hg => Nat.lt_of_lt_of_le (hgd g hg).2 HS13b.out)
              have HB8 : Hid (Below w.heap.size w w8) := HB7.out.grown hgr HB7.out.size (fun g hg => (hgd g hg).1)
              have HD8 : Hid (DataAt w8.heap.size w8 Ad cd D wh) := by
                obtain ⟨d1, d2, d3, g, d4, d5⟩ := data_of_own wh HO7.out
                refine ⟨d1, d2, d3, g, fun h => ⟨(d4 h).1, Nat.lt_of_lt_of_le (d4 h).2 hgr.size⟩, fun j hj hj' => ?_⟩
                have hA : Ad ≠ none := fun e => by rw [(d1 e).1] at hj'; simp at hj'
                rw [hdat g (d4 hA).1 j hj]
                exact d5 j hj hj'
              have HL8 : Hid (LargeAt w8.heap.size w8 AL ats Ls) := by
                by_cases h0 : 0 < Ls.length
                · exact HL7.out.next (hbl h0)
                · exact ⟨0, fun h => absurd h h0, fun k hk => absurd hk (by omega)⟩
              have HWG8 : Hid (WordAt w8.heap.size w8 Ag Cg (F ++ logForm D wh ats Ls)) := hwg
              have HS8 : Hid (w6.heap.size < w8.heap.size) := Nat.lt_of_lt_of_le hs7 hgr.size
              have HCG : Hid ((F ++ logForm D wh ats Ls).length + ex ≤ Cg) := hcg
              have HCM : Hid (Cg ≤ maxLen) := hcm
              clear hw7 hb7 hs7 hx7 hF7 HN7 HO7 HB7 HG7 HL7 HN6 HO6 HB6 HG6 HL6 hgd hgr hdat hbl hwg hcg hcm hs16
              obtain ⟨x0, x1, x2, x3⟩ := cell4 hx8
              clear hx8
              obtain ⟨rl, hrl⟩ : ∃ rl, rl = (F ++ logForm D wh ats Ls).length := ⟨_, rfl⟩
              have HRL : Hid (rl = (F ++ logForm D wh ats Ls).length) := hrl
              rw [← hrl]
              clear hrl
              go_wp2_with fail
              refine (appendTo_any w8.heap.size w8.heap.size n wh Ad AL cd cL D ats Ls (.slice none 0 0) [] w8 (World.ownsRow_nil _ _ _ _) HD8.out HL8.out (Nat.le_refl _) (Nat.le_refl _) HORD.out (by have := BD.out; have := BL.out; simp; omega) BD.out (by have := BL.out; omega)).mono ?_
              rintro e w9 ⟨v9, rfl, hown9, hb9, _⟩
              rw [List.nil_append] at hown9
              have HX9 : Hid (w9.heap[w6.heap.size]? = some (.cells #[.int .i64 n, .int .i64 wh, .slice Ad D.length cd, .slice AL Ls.length cL] 33 (0, 0))) := (hb9.block _ HS8.out).trans HX8.out
              obtain ⟨y0, y1, y2, y3⟩ := cell4 HX9.out
              have HA9 : Hid (Own w8.heap.size w9 v9 (logForm D wh ats Ls)) := hown9
              have HN9 : Hid (Own w4.heap.size w9 v5 (logForm D wh ats Ls)) := own_keep HN8.out (Nat.le_refl _) hb9
              have HG9 : Hid (Own w3.heap.size w9 (.slice A6' F.length c6') F) := own_keep HG8.out (Nat.le_refl _) hb9
              have HB9 : Hid (Below w.heap.size w w9) := HB8.out.trans (hb9.mono HB8.out.size)
              have HL9 : Hid (LargeAt w9.heap.size w9 AL ats Ls) := HL8.out.next hb9
              have HWG9 : Hid (WordAt w9.heap.size w9 Ag Cg (F ++ logForm D wh ats Ls)) := HWG8.out.next hb9
              clear hown9 hb9 x0 x1 x2 x3 HN8 HG8 HB8 HD8 HL8 HWG8 HX8
              go_wp2_with fail
              refine (size_any n wh D.length Ad AL cd cL ats Ls w9 BD.out BW.out BL.out HL9.out).mono ?_
              rintro e w10 ⟨rfl, hb10⟩
              have hlf := logForm_len Ls HORD.out
              rw [← hlf]
              have hA10 := own_keep HA9.out (Nat.le_refl _) hb10
              have hN10 := own_keep HN9.out (Nat.le_refl _) hb10
              have hG10 := own_keep HG9.out (Nat.le_refl _) hb10
              have hWG10 := HWG9.out.next hb10
              have HBF : Hid (Below w.heap.size w w10) := HB9.out.trans (hb10.mono HB9.out.size)
              have hrl := HRL.out
              have hcg := HCG.out
              rw [List.length_append] at hcg
              obtain ⟨hcut, hfrt⟩ := hWG10.front (by rw [List.length_append]; omega)
              rw [← hrl] at hcut
              obtain ⟨Lf, hLf⟩ : ∃ Lf, Lf = logForm D wh ats Ls := ⟨_, rfl⟩
              rw [← hLf] at hA10 hN10 hrl hlf
              rw [← hLf]
              rw [List.length_append] at hrl
              obtain ⟨Aw, Cw, rfl, _, _, hww⟩ := own_word hN10
              obtain ⟨Aa, Ca, rfl, _, _, hwa⟩ := own_word hA10
              obtain ⟨AF, CF, hvF, _, _, hwF⟩ := own_word hG10
              injection hvF with e1 _ e2
              subst e1; subst e2
              obtain ⟨Af, hAf⟩ : ∃ Af, Af = (if Cg = 0 then Ag else Ag.map (·.add 0)) := ⟨_, rfl⟩
              rw [← hAf] at hcut hfrt
              have S1 : Hid (Calls Try.prog 15 #[.slice Af F.length Cg, .slice A6' F.length c6'] w10 fun e w' => e = .returned (.bool true) ∧ ∃ q, w' = w10.drewN q) :=
                same_any _ _ Af A6' Cg c6' F w10 (by have := BF.out; omega) hfrt hwF
              have hlb : Lf.length ≤ 140737488355328 := by rw [hlf]; have := BD.out; have := BL.out; omega
              have S2 : Hid (∀ q', Calls Try.prog 15 #[.slice Aa Lf.length Ca, .slice Aw Lf.length Cw] (w10.drewN q') fun e w' => e = .returned (.bool true) ∧ ∃ q, w' = (w10.drewN q').drewN q) := fun q' =>
                same_any _ _ Aa Aw Ca Cw Lf (w10.drewN q') hlb hwa hww
              obtain ⟨ll, hll⟩ : ∃ ll, ll = Lf.length := ⟨_, rfl⟩
              rw [← hll] at S2 hrl hlb
              rw [← hll]
              have f1 : ((rl : Int) == (F.length : Int) + (ll : Int)) = true := beq_iff_eq.2 (by omega)
              have bff := BF.out
              clear hll hlf hA10 hN10 hG10 hWG10 hww hwa hwF hfrt hAf hLf hcg y0 y1 y2 y3 hb10 hrl
              go_wp2_with fail
              refine S1.out.mono ?_
              rintro e w12 ⟨rfl, q12, rfl⟩
              go_wp2_with fail
              refine (S2.out _).mono ?_
              rintro e w13 ⟨rfl, q13, rfl⟩
              go_wp2
              go_ret
              exact ⟨rfl, below_drewN HBF.out _⟩
        · go_wp2_with fail
          all_goals first
            | (go_ret; exact ⟨rfl, Below.refl _ _⟩)
            | (exfalso; omega)

end Go.Proofs.Qxb6629377a
