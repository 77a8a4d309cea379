/-
  DERIVED. Seat b6629317aD: the walk of 'FnAppendRequestSplitsAtAnyCut'.
-/
import Derived.Test.Qxb6629317aDoorHeader
import Derived.Deep.RegionWith
namespace Go.Proofs.Qxb6629317aDoor
open Go.RowKit

/-- What stands behind the header of a request. -/
def body (W : List (List UInt8)) : List UInt8 := (W.map wordEnc).flatten

theorem reqTo_eq (W : List (List UInt8)) : ∀ k, k ≤ W.length → reqTo W k = ((W.take k).map wordEnc).flatten
  | 0, _ => by simp [reqTo]
  | k + 1, h => by
    have hk : k < W.length := by omega
    rw [reqTo, reqTo_eq W k (by omega), List.take_succ_eq_append_getElem hk, List.map_append, List.flatten_append, List.getD, List.getElem?_eq_getElem hk]
    simp

theorem req_eq (W : List (List UInt8)) : req W = num 42 W.length ++ body W := by
  rw [req, reqTo_eq W _ (Nat.le_refl _), List.take_length]; rfl

theorem body_split (W : List (List UInt8)) (k : Nat) : body W = body (W.take k) ++ body (W.drop k) := by
  unfold body
  rw [← List.flatten_append, ← List.map_append, List.take_append_drop]

theorem sumW_eq (W : List (List UInt8)) : ∀ k, k ≤ W.length → sumW W k = ((W.take k).map List.length).sum
  | 0, _ => by simp [sumW]
  | k + 1, h => by
    have hk : k < W.length := by omega
    rw [sumW, sumW_eq W k (by omega), List.take_succ_eq_append_getElem hk, List.map_append, List.sum_append, List.getD, List.getElem?_eq_getElem hk]
    simp

theorem sumW_take (W : List (List UInt8)) (k : Nat) : sumW (W.take k) (W.take k).length ≤ sumW W W.length := by
  rw [sumW_eq _ _ (Nat.le_refl _), sumW_eq W _ (Nat.le_refl _), List.take_length, List.take_length]
  conv => rhs; rw [← List.take_append_drop k W, List.map_append, List.sum_append]
  omega

theorem sumW_drop (W : List (List UInt8)) (k : Nat) : sumW (W.drop k) (W.drop k).length ≤ sumW W W.length := by
  rw [sumW_eq _ _ (Nat.le_refl _), sumW_eq W _ (Nat.le_refl _), List.take_length, List.take_length]
  conv => rhs; rw [← List.take_append_drop k W, List.map_append, List.sum_append]
  omega

theorem WordsAt.take {B : Nat} {w : World} {A : Option Addr} {W : List (List UInt8)} (h : WordsAt B w A W) (k : Nat) (hk : k ≤ W.length) : WordsAt B w A (W.take k) := by
  obtain ⟨b, off, h1, h2⟩ := h
  have hl : (W.take k).length = k := by rw [List.length_take]; omega
  refine ⟨b, off, fun h => h1 (by omega), fun r hr => ?_⟩
  have e : (W.take k).getD r [] = W.getD r [] := by rw [List.getD, List.getElem?_take_of_lt (by omega), List.getD]
  rw [e]
  exact h2 r (by omega)

/-- The words from k on, at the address that the cut gives. -/
theorem WordsAt.drop {B : Nat} {w : World} {A A2 : Option Addr} {W : List (List UInt8)} (h : WordsAt B w A W) (k : Nat) (hA2 : ∀ b off, A = some ⟨b, off, none⟩ → k < W.length → A2 = some ⟨b, off + k, none⟩) : WordsAt B w A2 (W.drop k) := by
  obtain ⟨b, off, h1, h2⟩ := h
  have hl : (W.drop k).length = W.length - k := List.length_drop
  refine ⟨b, off + k, fun h => ?_, fun r hr => ?_⟩
  · obtain ⟨e1, e2⟩ := h1 (by omega)
    exact ⟨hA2 b off e1 (by omega), e2⟩
  · have e : (W.drop k).getD r [] = W.getD (k + r) [] := by rw [List.getD, List.getElem?_drop, List.getD]
    rw [e, Nat.add_assoc]
    exact h2 (k + r) (by omega)

theorem eqHead_any (g1 c1 g4 c4 n h : Nat) (w : World) (hh : (num 42 n).length = h) (hl : h ≤ 140737488355328) (h1 : Rd w g1 0 (num 42 n)) (h4 : Rd w g4 0 (num 42 n)) :
    Calls Tryd.prog 11 #[.slice (some ⟨g1, 0, none⟩) h c1, .slice (some ⟨g4, 0, none⟩) h c4] w fun e w' => e = .returned (.bool true) ∧ ∃ q, w' = w.drewN q := by
  subst hh
  exact equal_any g1 0 c1 g4 0 c4 (num 42 n) w hl h1 h4

theorem header_at (n h : Nat) (w : World) (hn : n ≤ 1048576) (hh : (num 42 n).length = h) :
    Calls Tryd.prog 12 #[.int .i64 n] w fun e w' => ∃ g c, e = .returned (.slice (some ⟨g, 0, none⟩) h c) ∧ Rd w' g 0 (num 42 n) ∧ Below w.heap.size w w' := by
  subst hh
  refine (header_any n w hn).mono ?_
  rintro e w' ⟨v, rfl, hown, hb⟩
  obtain ⟨g, c, rfl, _, _, hc⟩ := own_shape hown (by rw [num_len]; omega)
  exact ⟨g, c, rfl, fun j hj => by rw [Nat.zero_add]; exact hc j hj, hb⟩

theorem header_z (z : Int) (n h : Nat) (w : World) (hz : z = (n : Int)) (hn : n ≤ 1048576) (hh : (num 42 n).length = h) :
    Calls Tryd.prog 12 #[.int .i64 z] w fun e w' => ∃ g c, e = .returned (.slice (some ⟨g, 0, none⟩) h c) ∧ Rd w' g 0 (num 42 n) ∧ Below w.heap.size w w' := by
  subst hz
  exact header_at n h w hn hh

/-- A text in a block of its own, read there. -/
def TextAt (w : World) (g : Nat) (R : List UInt8) : Prop := g < w.heap.size ∧ Rd w g 0 R

theorem TextAt.on {w w' : World} {g : Nat} {R : List UInt8} (h : TextAt w g R) (hb : Below w.heap.size w w') : TextAt w' g R :=
  ⟨Nat.lt_of_lt_of_le h.1 hb.size, fun j hj => (hb.cell (p := ⟨g, 0 + j, none⟩) h.1).trans (h.2 j hj)⟩

theorem TextAt.drewN {w : World} {g : Nat} {R : List UInt8} (h : TextAt w g R) (n : Nat) : TextAt (w.drewN n) g R := h

theorem TextAt.head {w : World} {g n : Nat} {R : List UInt8} (h : TextAt w g (num 42 n ++ R)) : Rd w g 0 (num 42 n) := fun j hj => by
  have := h.2 j (by rw [List.length_append]; omega)
  rwa [getD_left _ _ _ _ hj] at this

theorem TextAt.rest {w : World} {g n : Nat} {R : List UInt8} (h : TextAt w g (num 42 n ++ R)) {m : Nat} (hm : (num 42 n).length = m) (j : Nat) (hj : j < R.length) : w.cell? ⟨g, m + j, none⟩ = some (.int .u8 ((R.getD j 0).toNat : Int)) := by
  subst hm
  have := h.2 ((num 42 n).length + j) (by rw [List.length_append]; omega)
  rwa [getD_right, Nat.zero_add] at this

theorem headerEnd_at (g c n n1 h : Nat) (R : List UInt8) (w : World) (hn1 : n1 = (num 42 n ++ R).length) (hl : n1 ≤ 140737488355328) (hh : (num 42 n).length = h) (ht : TextAt w g (num 42 n ++ R)) :
    Calls Tryd.prog 10 #[.slice (some ⟨g, 0, none⟩) n1 c] w fun e w' => e = .returned (.tuple #[.int .i64 h, .bool true]) ∧ w = w' := by
  subst hn1
  rw [← hh, num_len, Lib.decDigits_length]
  exact headerEnd_any g 0 c _ n w hl ht.2 ⟨[], R, by simp, rfl⟩

theorem num_at (n : Nat) (R : List UInt8) : NumAt (num 42 n ++ R) 0 42 n := ⟨[], R, by simp, rfl⟩

theorem text_of {B : Nat} {w : World} {v : Value} {R : List UInt8} (h : Own B w v R) (h0 : 0 < R.length) : ∃ g c, v = .slice (some ⟨g, 0, none⟩) R.length c ∧ R.length ≤ c ∧ TextAt w g R := by
  have h' := h
  unfold Own at h'
  obtain ⟨g, c, rfl, _, hg, hc⟩ := own_shape h h0
  rcases h'.2 with ⟨_, h1⟩ | ⟨g', cap', cur, hv, _, _, hnc, _⟩
  · omega
  · injection hv with _ _ hcc
    subst hcc
    exact ⟨g, c, rfl, hnc, hg, fun j hj => by rw [Nat.zero_add]; exact hc j hj⟩

set_option maxHeartbeats 3200000 in
set_option maxRecDepth 100000 in
theorem splits_in (A A2 : Option Addr) (cap c2 : Nat) (W : List (List UInt8)) (kk : Nat) (w : World) (hlen : W.length ≤ 140737488355328) (hcap : W.length ≤ cap) (hcap2 : cap ≤ 9223372036854775807) (hW : WordsAt w.heap.size w A W) (htab : Tab w.heap.size w) (hkk : kk ≤ W.length)
    (hsl : ∀ w, (Instr.slice 23 (.slice A W.length cap) (some (.int .i64 kk)) none none).run Tryd.prog w = .ok (.slice A2 (W.length - kk) c2) w) (hA2 : ∀ b off, A = some ⟨b, off, none⟩ → kk < W.length → A2 = some ⟨b, off + kk, none⟩) :
    Calls Tryd.prog 4 #[.slice A W.length cap, .int .i64 kk] w fun e w' => e = .returned (.bool true) ∧ Below w.heap.size w w' := by
  have hk0 : decide ((kk : Int) < 0) = false := decide_eq_false (by omega)
  go_enter Tryd.func4, Tryd.ntmps4
  go_wp2_with (first
    | (go_at_call 9; refine (bytes9_any w.heap.size (.int .i64 kk) A cap W w hlen hW).mono ?_; rintro e w' ⟨rfl, r, rfl, hr⟩))
  · go_ret
    exact ⟨rfl, Below.refl _ _⟩
  · go_ret
    exact ⟨rfl, Below.refl _ _⟩
  have hr' : W.length + sumW W W.length ≤ 1048576 := hr (by simpa using (by assumption : (!r) = false))
  clear hr
  go_loop [5, 6] (fun z i => ∃ (k m : Nat), k ≤ W.length ∧ i = .int .i64 k ∧ z = .int .i64 m ∧ m = 8 * W.length + sumW W k) (fun _ i => W.length - (intOf i).toNat)
  case atStart => exact ⟨0, 8 * W.length, Nat.zero_le _, rfl, by go_num, rfl⟩
  case round =>
    obtain ⟨k, m, hk, rfl, rfl, hme⟩ := hrel
    have HM : Hid (m = 8 * W.length + sumW W k) := hme
    have hsm := sumW_mono W hk
    have hmb : m ≤ 16777216 := by omega
    clear hme
    by_cases hlt : k < W.length
    · obtain ⟨b, off, hA, hrr⟩ := hW.word
      obtain ⟨rfl, _⟩ := hA (by omega)
      obtain ⟨A', C, hcx⟩ := hrr k hlt
      obtain ⟨x, hx⟩ : ∃ x, x = (W.getD k []).length := ⟨_, rfl⟩
      have HS : Hid (sumW W (k + 1) = sumW W k + x) := by rw [hx]; rfl
      have hsm1 : sumW W (k + 1) ≤ sumW W W.length := sumW_mono W hlt
      have hxb : x ≤ 1048576 := by have := HS.out; omega
      rw [← hx] at hcx
      clear hx hrr hA hsm1 hsm
      go_wp2
      · go_ret
        exact ⟨rfl, Below.refl _ _⟩
      · go_round
        case rel => exact ⟨k + 1, m + x, by omega, by go_num, by go_num, by rw [HS.out, HM.out]; omega⟩
        case measure => simp [intOf]; omega
    · clear HM hsm
      have hW65 : W.length ≤ 65536 := by have : (W.length : Int) ≤ 65536 := by assumption
                                         omega
      go_wp2_with fail
      refine (request_any w.heap.size w.heap.size A cap W (.slice none 0 0) [] w (World.ownsRow_nil _ _ _ _) hW (Nat.le_refl _) hW65 (by omega) (by simp) (Nat.le_refl _) htab).mono ?_
      rintro e w1 ⟨v1, rfl, hown1, hb1⟩
      have hlt2 : (W.take kk).length = kk := by rw [List.length_take]; omega
      have hlt3 : (W.drop kk).length = W.length - kk := List.length_drop
      have HR2 := request_any w1.heap.size w.heap.size A cap (W.take kk) (.slice none 0 0) [] w1 (World.ownsRow_nil _ _ _ _) ((hW.take kk hkk).on hb1 (Nat.le_refl _)) hb1.size (by omega) (by have := sumW_take W kk; omega) (by simp) (Nat.le_refl _) ((htab.on hb1).up hb1.size)
      rw [hlt2] at HR2
      have HR2' : Hid (Calls Tryd.prog 7 #[.slice none 0 0, .slice A kk cap] w1 fun e w' => ∃ v', e = .returned v' ∧ Own w1.heap.size w' v' ([] ++ req (W.take kk)) ∧ Below w1.heap.size w1 w') := HR2
      clear HR2
      go_wp2_with fail
      refine HR2'.out.mono ?_
      rintro e w2 ⟨v2, rfl, hown2, hb2⟩
      have hb02 := hb1.trans (hb2.mono hb1.size)
      have HR3 := request_any w2.heap.size w.heap.size A2 c2 (W.drop kk) (.slice none 0 0) [] w2 (World.ownsRow_nil _ _ _ _) ((hW.drop kk hA2).on hb02 (Nat.le_refl _)) hb02.size (by omega) (by have := sumW_drop W kk; omega) (by simp) (Nat.le_refl _) ((htab.on hb02).up hb02.size)
      rw [hlt3] at HR3
      have HR3' : Hid (Calls Tryd.prog 7 #[.slice none 0 0, .slice A2 (W.length - kk) c2] w2 fun e w' => ∃ v', e = .returned v' ∧ Own w2.heap.size w' v' ([] ++ req (W.drop kk)) ∧ Below w2.heap.size w2 w') := HR3
      clear HR3
      go_wp2_with fail
      refine HR3'.out.mono ?_
      rintro e w3 ⟨v3, rfl, hown3, hb3⟩
      have hb03 := hb02.trans (hb3.mono hb02.size)
      -- the three texts in the last world
      rw [List.nil_append, req_eq] at hown1 hown2 hown3
      rw [hlt2] at hown2
      rw [hlt3] at hown3
      have hbs := body_split W kk
      obtain ⟨X, hX⟩ : ∃ X, X = body (W.take kk) := ⟨_, rfl⟩
      obtain ⟨Y, hY⟩ : ∃ Y, Y = body (W.drop kk) := ⟨_, rfl⟩
      rw [hbs, ← hX, ← hY] at hown1
      rw [← hX] at hown2
      rw [← hY] at hown3
      obtain ⟨g1, c1, rfl, hc1, ht1⟩ := text_of hown1 (by rw [List.length_append, num_len]; omega)
      obtain ⟨g2, c2', rfl, hc2, ht2⟩ := text_of hown2 (by rw [List.length_append, num_len]; omega)
      obtain ⟨g3, c3, rfl, hc3, ht3⟩ := text_of hown3 (by rw [List.length_append, num_len]; omega)
      have HT1 : Hid (TextAt w3 g1 (num 42 W.length ++ (X ++ Y))) := (ht1.on hb2).on hb3
      have HT2 : Hid (TextAt w3 g2 (num 42 kk ++ X)) := ht2.on hb3
      have HT3 : Hid (TextAt w3 g3 (num 42 (W.length - kk) ++ Y)) := ht3
      -- names for the lengths
      obtain ⟨n1, hn1⟩ : ∃ n1, n1 = (num 42 W.length ++ (X ++ Y)).length := ⟨_, rfl⟩
      obtain ⟨n2, hn2⟩ : ∃ n2, n2 = (num 42 kk ++ X).length := ⟨_, rfl⟩
      obtain ⟨n3, hn3⟩ : ∃ n3, n3 = (num 42 (W.length - kk) ++ Y).length := ⟨_, rfl⟩
      obtain ⟨h1, hh1⟩ : ∃ h1, (num 42 W.length).length = h1 := ⟨_, rfl⟩
      obtain ⟨h2, hh2⟩ : ∃ h2, (num 42 kk).length = h2 := ⟨_, rfl⟩
      obtain ⟨h3, hh3⟩ : ∃ h3, (num 42 (W.length - kk)).length = h3 := ⟨_, rfl⟩
      have en1 : n1 = h1 + (X.length + Y.length) := by rw [hn1, List.length_append, List.length_append, hh1]
      have en2 : n2 = h2 + X.length := by rw [hn2, List.length_append, hh2]
      have en3 : n3 = h3 + Y.length := by rw [hn3, List.length_append, hh3]
      have hbl : n1 ≤ 10000000 ∧ h1 ≤ 24 ∧ h2 ≤ 24 ∧ h3 ≤ 24 := by
        have d1 := digits_le W.length (by omega)
        have d2 := digits_le kk (by omega)
        have d3 := digits_le (W.length - kk) (by omega)
        have hrl := reqTo_len W W.length (by omega)
        rw [reqTo_eq W _ (Nat.le_refl _), List.take_length] at hrl
        have hbs' : (body W).length = X.length + Y.length := by rw [hbs, hX, hY, List.length_append]
        unfold body at hbs'
        rw [num_len] at hh1 hh2 hh3
        omega
      rw [← hn1] at hc1
      rw [← hn2] at hc2
      rw [← hn3] at hc3
      rw [← hn1, ← hn2, ← hn3]
      have HN1 : Hid (n1 = (num 42 W.length ++ (X ++ Y)).length) := hn1
      have HN2 : Hid (n2 = (num 42 kk ++ X).length) := hn2
      have HN3 : Hid (n3 = (num 42 (W.length - kk) ++ Y).length) := hn3
      have HH1 : Hid ((num 42 W.length).length = h1) := hh1
      have HH2 : Hid ((num 42 kk).length = h2) := hh2
      have HH3 : Hid ((num 42 (W.length - kk)).length = h3) := hh3
      have HE1 : Hid (n1 = h1 + (X.length + Y.length)) := en1
      have HE2 : Hid (n2 = h2 + X.length) := en2
      have HE3 : Hid (n3 = h3 + Y.length) := en3
      obtain ⟨bn1, bh1, bh2, bh3⟩ := hbl
      have bn2 : n2 ≤ 10000024 := by omega
      have bn3 : n3 ≤ 10000024 := by omega
      have lh1 : h1 ≤ n1 := by omega
      have lh2 : h2 ≤ n2 := by omega
      have lh3 : h3 ≤ n3 := by omega
      have lc1 : h1 ≤ c1 := by omega
      have lc2 : h2 ≤ c2' := by omega
      have lc3 : h3 ≤ c3 := by omega
      clear hown1 hown2 hown3 ht1 ht2 ht3 hbs hX hY htab hW hb1 hb2 hb3 hb02 hA2 HR2' HR3' hn1 hn2 hn3 hh1 hh2 hh3 en1 en2 en3 hlt2 hlt3
      go_wp2_with fail
      refine (headerEnd_at g1 c1 W.length n1 h1 (X ++ Y) w3 HN1.out (by omega) HH1.out HT1.out).mono ?_
      rintro e w4 ⟨rfl, rfl⟩
      go_wp2_with fail
      refine (headerEnd_at g2 c2' kk n2 h2 X w3 HN2.out (by omega) HH2.out HT2.out).mono ?_
      rintro e w4 ⟨rfl, rfl⟩
      go_wp2_with fail
      refine (headerEnd_at g3 c3 (W.length - kk) n3 h3 Y w3 HN3.out (by omega) HH3.out HT3.out).mono ?_
      rintro e w4 ⟨rfl, rfl⟩
      go_wp2_with fail
      go_region_with (first
        | (go_at_call 12; refine (header_at W.length h1 _ (by omega) HH1.out).mono ?_; rintro e w4 ⟨g4, c4, rfl, hr4, hb4⟩)
        | (go_at_call 11; refine (eqHead_any g1 c1 g4 c4 W.length h1 _ HH1.out (by omega) ?_ ?_).mono ?_; exact ((HT1.out.drewN 1).on hb4).head; exact hr4; rintro e w5 ⟨rfl, q5, rfl⟩))
      have hb04 : Below w.heap.size w (w4.drewN q5) := below_drewN ((below_drewN hb03 1).trans (hb4.mono hb03.size)) q5
      have HT1b : Hid (TextAt (w4.drewN q5) g1 (num 42 W.length ++ (X ++ Y))) := ((HT1.out.drewN 1).on hb4).drewN q5
      have HT2b : Hid (TextAt (w4.drewN q5) g2 (num 42 kk ++ X)) := ((HT2.out.drewN 1).on hb4).drewN q5
      have HT3b : Hid (TextAt (w4.drewN q5) g3 (num 42 (W.length - kk) ++ Y)) := ((HT3.out.drewN 1).on hb4).drewN q5
      clear HT1 HT2 HT3 hb03 hb4 hr4
      go_wp2_with fail
      go_region_with (first
        | (go_at_call 12; refine (header_at kk h2 _ (by omega) HH2.out).mono ?_; rintro e w6 ⟨g6, c6, rfl, hr6, hb6⟩)
        | (go_at_call 11; refine (eqHead_any g2 c2' g6 c6 kk h2 _ HH2.out (by omega) ?_ ?_).mono ?_; exact ((HT2b.out.drewN 1).on hb6).head; exact hr6; rintro e w7 ⟨rfl, q7, rfl⟩))
      have hb06 : Below w.heap.size w (w6.drewN q7) := below_drewN ((below_drewN hb04 1).trans (hb6.mono hb04.size)) q7
      have HT1c : Hid (TextAt (w6.drewN q7) g1 (num 42 W.length ++ (X ++ Y))) := ((HT1b.out.drewN 1).on hb6).drewN q7
      have HT2c : Hid (TextAt (w6.drewN q7) g2 (num 42 kk ++ X)) := ((HT2b.out.drewN 1).on hb6).drewN q7
      have HT3c : Hid (TextAt (w6.drewN q7) g3 (num 42 (W.length - kk) ++ Y)) := ((HT3b.out.drewN 1).on hb6).drewN q7
      clear HT1b HT2b HT3b hb04 hb6 hr6
      go_wp2_with fail
      go_region_with (first
        | (go_at_call 12; refine (header_z _ (W.length - kk) h3 _ (by rw [Go.IntWalk.i64_in _ (by omega)]; omega) (by omega) HH3.out).mono ?_; rintro e w8 ⟨g8, c8, rfl, hr8, hb8⟩)
        | (go_at_call 11; refine (eqHead_any g3 c3 g8 c8 (W.length - kk) h3 _ HH3.out (by omega) ?_ ?_).mono ?_; exact ((HT3c.out.drewN 1).on hb8).head; exact hr8; rintro e w9 ⟨rfl, q9, rfl⟩))
      have hb08 : Below w.heap.size w (w8.drewN q9) := below_drewN ((below_drewN hb06 1).trans (hb8.mono hb06.size)) q9
      have HT1d : Hid (TextAt (w8.drewN q9) g1 (num 42 W.length ++ (X ++ Y))) := ((HT1c.out.drewN 1).on hb8).drewN q9
      have HT2d : Hid (TextAt (w8.drewN q9) g2 (num 42 kk ++ X)) := ((HT2c.out.drewN 1).on hb8).drewN q9
      have HT3d : Hid (TextAt (w8.drewN q9) g3 (num 42 (W.length - kk) ++ Y)) := ((HT3c.out.drewN 1).on hb8).drewN q9
      clear HT1c HT2c HT3c hb06 hb8 hr8
      obtain ⟨wf, hwf⟩ : ∃ wf : World, wf = w8.drewN q9 := ⟨_, rfl⟩
      rw [← hwf] at hb08 HT1d HT2d HT3d ⊢
      obtain ⟨x, hx⟩ : ∃ x, x = X.length := ⟨_, rfl⟩
      obtain ⟨y, hy⟩ : ∃ y, y = Y.length := ⟨_, rfl⟩
      have d1 : (n1 : Int) - (h1 : Int) = (x : Int) + (y : Int) := by have := HE1.out; omega
      have d2 : (n2 : Int) - (h2 : Int) = (x : Int) := by have := HE2.out; omega
      have d3 : (n3 : Int) - (h3 : Int) = (y : Int) := by have := HE3.out; omega
      have HB : Hid (Below w.heap.size w wf) := hb08
      have HX : Hid (x = X.length) := hx
      have HY : Hid (y = Y.length) := hy
      clear hwf hb08 hx hy
      go_wp2_with fail
      go_loopw [18] (fun i wr => ∃ j q : Nat, j ≤ x ∧ i = .int .i64 j ∧ wr = wf.drewN q) (fun i _ => x - (intOf i).toNat)
      case atStart => exact ⟨0, 0, Nat.zero_le _, rfl, rfl⟩
      case round =>
        obtain ⟨j, q, hj, rfl, rfl⟩ := hrel
        by_cases hlj : j < x
        · have e1 : wf.cell? ⟨g1, h1 + j, none⟩ = some (.int .u8 ((X.getD j 0).toNat : Int)) := by
            have := HT1d.out.rest HH1.out j (by have := HX.out; rw [List.length_append]; omega)
            rwa [getD_left _ _ _ _ (by have := HX.out; omega)] at this
          have e2 : wf.cell? ⟨g2, h2 + j, none⟩ = some (.int .u8 ((X.getD j 0).toNat : Int)) := HT2d.out.rest HH2.out j (by have := HX.out; omega)
          obtain ⟨u, hu⟩ : ∃ u, u = (X.getD j 0).toNat := ⟨_, rfl⟩
          rw [← hu] at e1 e2
          clear hu
          have b1 : (h1 : Int) + (j : Int) < (n1 : Int) := by omega
          have b2 : (h2 : Int) + (j : Int) < (n2 : Int) := by omega
          go_wp2_with fail
          go_quiet (fail)
          go_wp2
          go_roundw
          case rel => exact ⟨j + 1, _, by omega, by go_num, rfl⟩
          case measure => simp [intOf]; omega
        · go_wp2_with fail
          obtain ⟨q0, rfl⟩ : ∃ q0 : Nat, q0 = q := ⟨_, rfl⟩
          go_loopw [19] (fun i wr => ∃ j q : Nat, j ≤ y ∧ i = .int .i64 j ∧ wr = wf.drewN q) (fun i _ => y - (intOf i).toNat)
          case atStart => exact ⟨0, _, Nat.zero_le _, rfl, rfl⟩
          case round =>
            obtain ⟨i, q, hi, rfl, rfl⟩ := hrel
            by_cases hli : i < y
            · have e1 : wf.cell? ⟨g1, h1 + x + i, none⟩ = some (.int .u8 ((Y.getD i 0).toNat : Int)) := by
                have := HT1d.out.rest HH1.out (x + i) (by have := HX.out; have := HY.out; rw [List.length_append]; omega)
                rw [HX.out, getD_right, ← HX.out, ← Nat.add_assoc] at this
                exact this
              have e2 : wf.cell? ⟨g3, h3 + i, none⟩ = some (.int .u8 ((Y.getD i 0).toNat : Int)) := HT3d.out.rest HH3.out i (by have := HY.out; omega)
              obtain ⟨u, hu⟩ : ∃ u, u = (Y.getD i 0).toNat := ⟨_, rfl⟩
              rw [← hu] at e1 e2
              clear hu
              have b1 : (h1 : Int) + (x : Int) + (i : Int) < (n1 : Int) := by omega
              have b2 : (h3 : Int) + (i : Int) < (n3 : Int) := by omega
              go_wp2_with fail
              go_quiet (fail)
              go_wp2
              go_roundw
              case rel => exact ⟨i + 1, _, by omega, by go_num, rfl⟩
              case measure => simp [intOf]; omega
            · go_wp2
              go_ret
              exact ⟨rfl, below_drewN HB.out _⟩

end Go.Proofs.Qxb6629317aDoor
