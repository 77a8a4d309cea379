/-
  DERIVED. Seat b6629377a: the contracts of the two zzBytes functions and of zzCopyNested.
-/
import Derived.Test.Qxb6629377aNew
namespace Go.Proofs.Qxb6629377a
open Go.RowKit

/-- The call answers a bool; where it is true, n and the pieces' bytes are at most 1<<20. -/
def BytesOk (n : Nat) (W : List (List UInt8)) (e : Ending) : Prop := ∃ r, e = .returned (.bool r) ∧ (r = true → n + sumW W W.length ≤ 1048576)

theorem bytesOk_false (n : Nat) (W : List (List UInt8)) : BytesOk n W (.returned (.bool false)) := ⟨_, rfl, fun h => by cases h⟩

set_option maxHeartbeats 1600000 in
theorem bytes5_any (B : Nat) (x0 x1 x3 x7 : Value) (A2 A4 A5 A6 : Option Addr) (d c2 a c4 c5 f c6 : Nat) (W : List (List UInt8)) (w : World) (hd : d ≤ 140737488355328) (ha : a ≤ 140737488355328) (hf : f ≤ 140737488355328) (hlen : W.length ≤ 140737488355328) (hW : WordsAt B w A5 W) :
    Calls Try.prog 5 #[x0, x1, .slice A2 d c2, x3, .slice A4 a c4, .slice A5 W.length c5, .slice A6 f c6, x7] w fun e w' => w = w' ∧ BytesOk (d + a + W.length + f) W e := by
  obtain ⟨b, off, hA, hr⟩ := hW.word
  clear hW
  go_enter Try.func5, Try.ntmps5
  go_wp2
  · go_ret; exact ⟨rfl, bytesOk_false _ _⟩
  · go_ret; exact ⟨rfl, bytesOk_false _ _⟩
  · go_ret; exact ⟨rfl, bytesOk_false _ _⟩
  · go_ret; exact ⟨rfl, bytesOk_false _ _⟩
  · go_ret; exact ⟨rfl, bytesOk_false _ _⟩
  go_loop [17, 18] (fun z i => ∃ (k m : Nat), k ≤ W.length ∧ m ≤ 1048576 ∧ i = .int .i64 k ∧ z = .int .i64 m ∧ m = d + a + W.length + sumW W k) (fun _ i => W.length - (intOf i).toNat)
  case atStart => exact ⟨0, d + a + W.length, Nat.zero_le _, by omega, rfl, by go_num, rfl⟩
  case round =>
    obtain ⟨k, m, hk, hm, rfl, rfl, hme⟩ := hrel
    have HM : Hid (m = d + a + W.length + sumW W k) := hme
    clear hme
    by_cases hlt : k < W.length
    · obtain ⟨rfl, _⟩ := hA (by omega)
      obtain ⟨A', C, hcx⟩ := hr k hlt
      obtain ⟨x, hx⟩ : ∃ x, x = (W.getD k []).length := ⟨_, rfl⟩
      have HS : Hid (sumW W (k + 1) = sumW W k + x) := by rw [hx]; rfl
      rw [← hx] at hcx
      clear hx hr hA
      go_wp2
      · go_ret
        exact ⟨rfl, bytesOk_false _ _⟩
      · go_ret
        exact ⟨rfl, bytesOk_false _ _⟩
      · go_round
        case rel => exact ⟨k + 1, m + x, by omega, by omega, by go_num, by go_num, by rw [HS.out, HM.out]; omega⟩
        case measure => simp [intOf]; omega
    · obtain rfl : k = W.length := by omega
      go_wp2
      · go_ret
        exact ⟨rfl, bytesOk_false _ _⟩
      · go_ret
        exact ⟨rfl, bytesOk_false _ _⟩
      · go_ret
        exact ⟨rfl, ⟨_, rfl, fun _ => by have := HM.out; omega⟩⟩

set_option maxHeartbeats 1600000 in
theorem bytes16_any (B : Nat) (x0 x1 x3 x7 : Value) (A2 A4 A5 A6 : Option Addr) (d c2 a c4 c5 f c6 : Nat) (W : List (List UInt8)) (w : World) (hd : d ≤ 140737488355328) (ha : a ≤ 140737488355328) (hf : f ≤ 140737488355328) (hlen : W.length ≤ 140737488355328) (hW : WordsAt B w A5 W) :
    Calls Try.prog 16 #[x0, x1, .slice A2 d c2, x3, .slice A4 a c4, .slice A5 W.length c5, .slice A6 f c6, x7] w fun e w' => w = w' ∧ BytesOk (d + a + W.length + f) W e := by
  obtain ⟨b, off, hA, hr⟩ := hW.word
  clear hW
  go_enter Try.func16, Try.ntmps16
  go_wp2
  · go_ret; exact ⟨rfl, bytesOk_false _ _⟩
  · go_ret; exact ⟨rfl, bytesOk_false _ _⟩
  · go_ret; exact ⟨rfl, bytesOk_false _ _⟩
  · go_ret; exact ⟨rfl, bytesOk_false _ _⟩
  · go_ret; exact ⟨rfl, bytesOk_false _ _⟩
  go_loop [17, 18] (fun z i => ∃ (k m : Nat), k ≤ W.length ∧ m ≤ 1048576 ∧ i = .int .i64 k ∧ z = .int .i64 m ∧ m = d + a + W.length + sumW W k) (fun _ i => W.length - (intOf i).toNat)
  case atStart => exact ⟨0, d + a + W.length, Nat.zero_le _, by omega, rfl, by go_num, rfl⟩
  case round =>
    obtain ⟨k, m, hk, hm, rfl, rfl, hme⟩ := hrel
    have HM : Hid (m = d + a + W.length + sumW W k) := hme
    clear hme
    by_cases hlt : k < W.length
    · obtain ⟨rfl, _⟩ := hA (by omega)
      obtain ⟨A', C, hcx⟩ := hr k hlt
      obtain ⟨x, hx⟩ : ∃ x, x = (W.getD k []).length := ⟨_, rfl⟩
      have HS : Hid (sumW W (k + 1) = sumW W k + x) := by rw [hx]; rfl
      rw [← hx] at hcx
      clear hx hr hA
      go_wp2
      · go_ret
        exact ⟨rfl, bytesOk_false _ _⟩
      · go_ret
        exact ⟨rfl, bytesOk_false _ _⟩
      · go_round
        case rel => exact ⟨k + 1, m + x, by omega, by omega, by go_num, by go_num, by rw [HS.out, HM.out]; omega⟩
        case measure => simp [intOf]; omega
    · obtain rfl : k = W.length := by omega
      go_wp2
      · go_ret
        exact ⟨rfl, bytesOk_false _ _⟩
      · go_ret
        exact ⟨rfl, bytesOk_false _ _⟩
      · go_ret
        exact ⟨rfl, ⟨_, rfl, fun _ => by have := HM.out; omega⟩⟩

/-- A slice value that holds the pieces. -/
def WordsOwn (w : World) (v : Value) (Ls : List (List UInt8)) : Prop := ∃ A C, v = .slice A Ls.length C ∧ WordsAt w.heap.size w A Ls

set_option maxHeartbeats 1600000 in
theorem copyNested_any (A : Option Addr) (C : Nat) (Ls : List (List UInt8)) (w : World) (hw : WordsAt w.heap.size w A Ls) (hlim : Ls.length ≤ 1048576) (hsum : sumW Ls Ls.length ≤ 1048576) (hC : A = none → C = 0) :
    Calls Try.prog 8 #[.slice A Ls.length C] w fun e w' => ∃ v, e = .returned v ∧ WordsOwn w' v Ls ∧ Below w.heap.size w w' := by
  have hnl := fun w a n c => Lib.run_eql_slice_nil (P := Try.prog) w 24 22 a n c 0 0 Try.underlying24
  obtain ⟨i0, hi0, hz0, hz1, hz2⟩ := info_parts Try.info22
  cases A with
  | none =>
    obtain ⟨b, off, h2, h3⟩ := hw
    obtain rfl : Ls = [] := by
      by_cases h : 0 < Ls.length
      · have := (h2 h).1; cases this
      · exact List.eq_nil_of_length_eq_zero (by omega)
    obtain rfl := hC rfl
    clear h2 h3 hC
    go_enter Try.func8, Try.ntmps8
    go_wp2
    go_ret
    exact ⟨_, rfl, ⟨_, _, rfl, 0, 0, fun h => absurd h (by simp), fun j hj => absurd hj (by simp)⟩, Below.refl _ _⟩
  | some ad =>
    have hmkb : i0.bytes * Ls.length ≤ 281474976710656 := by rw [hz2]; omega
    clear hC
    go_enter Try.func8, Try.ntmps8
    go_wp2_with (first
      | (at_make; refine wpList_make_full _ rfl _ _ 24 rfl w.heap.size 22 i0 (.slice none 0 0) 1 Try.underlying24 hi0 hz0 hz1 .i64 .i64 _ _ Ls.length rfl rfl rfl rfl hmkb (by unfold maxLen; omega) (Nat.le_refl _) ?_; intro w1 hown1 hgrow1))
    have hb1 : Below w.heap.size w w1 := (Below.refl _ _).grown hgrow1 (Nat.le_refl _) (fun q hq => by cases hq)
    have hxl : (madeCells (Value.slice none 0 0).cells (Ls.length * 1)).toList.length = Ls.length := by have := hown1.1; rw [Nat.mul_one] at this ⊢; exact this
    go_loopw [4] (fun i wr => ∃ (k : Nat) (xs : List Value), k ≤ Ls.length ∧ i = .int .i64 k ∧ xs.length = Ls.length ∧ wr.ownsRow w.heap.size 22 1 (.slice (some ⟨w.heap.size, 0, none⟩) Ls.length Ls.length) Ls.length xs ∧ (∀ j, j < k → ∃ v, xs[j]? = some v ∧ Own (w.heap.size + 1) wr v (Ls.getD j [])) ∧ Below w.heap.size w wr)
      (fun i _ => Ls.length - (intOf i).toNat)
    case atStart => exact ⟨0, _, Nat.zero_le _, rfl, hxl, hown1, fun j hj => absurd hj (by omega), hb1⟩
    case round =>
      clear hown1 hgrow1 hb1 hxl
      obtain ⟨k, xs, hk, rfl, hxs, hown, hdone, hbk⟩ := hrel
      have hlw : w.heap.size < wr.heap.size := (World.ownsRow.lt hown _ rfl).2
      by_cases hlt : k < Ls.length
      · obtain ⟨b, off, h2, h3⟩ := hw.on hbk (Nat.le_refl _)
        obtain ⟨e1, hbB⟩ := h2 (by omega)
        injection e1 with e1
        subst e1
        obtain ⟨A', C', hc1, hwd⟩ := h3 k hlt
        have hxb : (Ls.getD k []).length ≤ 1048576 := by
          have h1 : sumW Ls (k + 1) ≤ sumW Ls Ls.length := sumW_mono Ls hlt
          have h2 : sumW Ls (k + 1) = sumW Ls k + (Ls.getD k []).length := rfl
          omega
        obtain ⟨X, hX⟩ : ∃ X, X = Ls.getD k [] := ⟨_, rfl⟩
        rw [← hX] at hc1 hwd hxb
        have HX : Hid (X = Ls.getD k []) := hX
        obtain ⟨u, hu⟩ : ∃ u, xs[k]? = some u := ⟨_, List.getElem?_eq_getElem (by omega)⟩
        have HU : Hid (xs[k]? = some u) := hu
        have HD : Hid (∀ j, j < k → ∃ v, xs[j]? = some v ∧ Own (w.heap.size + 1) wr v (Ls.getD j [])) := hdone
        have HWD : Hid (WordAt wr.heap.size wr A' C' X) := hwd.up hbk.size
        clear hX hu hdone h2 h3 hwd hw
        go_wp2_with (first
          | (go_at_call 9
             refine (copyBytes_any A' C' X wr HWD.out (by omega)).mono ?_
             rintro e w2 ⟨v2, rfl, hown2, hb2⟩
             have hown2k : w2.ownsRow w.heap.size 22 1 (.slice (some ⟨w.heap.size, 0, none⟩) Ls.length Ls.length) Ls.length xs := owns_beside hown (fun g hg => by cases hg; exact hb2.block _ hlw)
             have hc2 : w2.cell? ⟨w.heap.size, k, none⟩ = some u := by rw [hown2k.cellAt k (by omega)]; exact HU.out
             have hf2 : w2.frozen? ⟨w.heap.size, k, none⟩ = false := hown2k.frozenAt k
             obtain ⟨A2, C2, rfl, _⟩ := own_word hown2))
        have hst := hown2k.stored k (.slice A2 X.length C2)
        have hb02 : Below w.heap.size w w2 := hbk.trans (hb2.mono hbk.size)
        have hbs := hb02.grown hst.2 hb02.size (fun q hq => by cases hq; exact Nat.le_refl _)
        go_roundw
        case rel =>
          refine ⟨k + 1, xs.set k (.slice A2 X.length C2), by omega, by go_num, by rw [List.length_set]; exact hxs, hst.1, fun j hj => ?_, hbs⟩
          by_cases e : j = k
          · subst e
            refine ⟨_, List.getElem?_set_self (by omega), ?_⟩
            rw [← HX.out]
            exact own_beside (own_down hown2 hlw) hst.2 (fun g hg => by cases hg; exact Nat.lt_succ_self _)
          · obtain ⟨v, hv1, hv2⟩ := HD.out j (by omega)
            refine ⟨v, by rw [List.getElem?_set_ne (fun e' => e e'.symm)]; exact hv1, ?_⟩
            exact own_beside (own_keep hv2 (Nat.le_refl _) hb2) hst.2 (fun g hg => by cases hg; exact Nat.lt_succ_self _)
        case measure => simp [intOf]; omega
      · obtain rfl : k = Ls.length := by omega
        have HD : Hid (∀ j, j < Ls.length → ∃ v, xs[j]? = some v ∧ Own (w.heap.size + 1) wr v (Ls.getD j [])) := hdone
        clear hdone
        go_wp2
        go_ret
        refine ⟨_, rfl, ⟨_, _, rfl, w.heap.size, 0, fun _ => ⟨rfl, hlw⟩, fun r hr => ?_⟩, hbk⟩
        obtain ⟨v, hv1, hv2⟩ := HD.out r hr
        obtain ⟨A2, C2, rfl, _, _, hwd⟩ := own_word hv2
        refine ⟨A2, C2, ?_, hwd⟩
        rw [Nat.zero_add, hown.cellAt r (by omega)]
        exact hv1

end Go.Proofs.Qxb6629377a
