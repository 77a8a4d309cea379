/-
  DERIVED. Seat b6629317aD: words that came in, the text of a request, and the contract of resp.AppendRequest.
-/
import Derived.Test.Qxb6629317aDoorItoa
import Derived.Laws.AppendOwnNone
namespace Go.Proofs.Qxb6629317aDoor
open Go.RowKit

/-- A []byte whose cells lie below B. -/
def WordAt (B : Nat) (w : World) (A : Option Addr) (C : Nat) (l : List UInt8) : Prop :=
  (A = none → l = [] ∧ C = 0) ∧ ∃ b off, (0 < l.length → A = some ⟨b, off, none⟩ ∧ b < B) ∧ ∀ j, j < l.length → w.cell? ⟨b, off + j, none⟩ = some (.int .u8 ((l.getD j 0).toNat : Int))

/-- A [][]byte whose cells lie below B. -/
def WordsAt (B : Nat) (w : World) (A : Option Addr) (W : List (List UInt8)) : Prop :=
  ∃ b off, (0 < W.length → A = some ⟨b, off, none⟩ ∧ b < B) ∧ ∀ r, r < W.length → ∃ A' C, w.cell? ⟨b, off + r, none⟩ = some (.slice A' (W.getD r []).length C) ∧ WordAt B w A' C (W.getD r [])

theorem WordAt.on {B B' : Nat} {w w' : World} {A : Option Addr} {C : Nat} {l : List UInt8} (h : WordAt B w A C l) (hb : Below B' w w') (hB : B ≤ B') : WordAt B w' A C l := by
  obtain ⟨h1, b, off, h2, h3⟩ := h
  refine ⟨h1, b, off, h2, fun j hj => ?_⟩
  have := (h2 (by omega)).2
  rw [hb.cell (p := ⟨b, off + j, none⟩) (by show b < B'; omega)]
  exact h3 j hj

theorem WordsAt.on {B B' : Nat} {w w' : World} {A : Option Addr} {W : List (List UInt8)} (h : WordsAt B w A W) (hb : Below B' w w') (hB : B ≤ B') : WordsAt B w' A W := by
  obtain ⟨b, off, h1, h2⟩ := h
  refine ⟨b, off, h1, fun r hr => ?_⟩
  obtain ⟨A', C, h3, h4⟩ := h2 r hr
  have := (h1 (by omega)).2
  refine ⟨A', C, ?_, h4.on hb hB⟩
  rw [hb.cell (p := ⟨b, off + r, none⟩) (by show b < B'; omega)]
  exact h3

theorem WordAt.up {B B' : Nat} {w : World} {A : Option Addr} {C : Nat} {l : List UInt8} (h : WordAt B w A C l) (hB : B ≤ B') : WordAt B' w A C l := by
  obtain ⟨h1, b, off, h2, h3⟩ := h
  exact ⟨h1, b, off, fun h => ⟨(h2 h).1, by have := (h2 h).2; omega⟩, h3⟩

theorem WordsAt.up {B B' : Nat} {w : World} {A : Option Addr} {W : List (List UInt8)} (h : WordsAt B w A W) (hB : B ≤ B') : WordsAt B' w A W := by
  obtain ⟨b, off, h1, h2⟩ := h
  refine ⟨b, off, fun h => ⟨(h1 h).1, by have := (h1 h).2; omega⟩, fun r hr => ?_⟩
  obtain ⟨A', C, h3, h4⟩ := h2 r hr
  exact ⟨A', C, h3, h4.up hB⟩

/-- 'append(dst, word...)' onto a slice that the call owns, whatever the word. -/
theorem wpList_append_word {w : World} {ops : Array Oper} {rest : List Oper} {o : Oper} {a : Act} {Q : Exit → Act → World → Prop} (hgd : o.guard = none) (s x : Operand)
    (ho : o.op = .call { callee := .builtin .append, args := #[s, x], argTypes := #[22, 22] }) (B B' : Nat) (v : Value) (l0 l : List UInt8) (hs : a.eval s = v) (hown : Own B w v l0) (A : Option Addr) (C : Nat) (hx : a.eval x = .slice A l.length C)
    (hw : WordAt B' w A C l) (hlim : l0.length + l.length ≤ 140737488355328) (hBw : B ≤ w.heap.size)
    (h : ∀ v' w', Own B w' v' (l0 ++ l) → Below B w w' → wpList Tryd.prog ops Q rest (a.put o.dst v') w') : wpList Tryd.prog ops Q (o :: rest) a w := by
  obtain ⟨i0, hi0, hz0, hz1, hz2⟩ := info_parts Tryd.info5
  obtain ⟨h1, b, off, h2, h3⟩ := hw
  unfold Own at hown
  cases A with
  | none =>
    obtain ⟨rfl, rfl⟩ := h1 rfl
    refine wpList_append_own_none hgd s x 22 ho B 5 i0 1 Tryd.underlying22 hi0 v _ _ hs hown hx ?_
    refine h v w ?_ (Below.refl _ _)
    rw [List.append_nil]
    exact hown
  | some ad =>
    refine wpList_append_own w hgd s x 22 ho B 5 i0 (.int .u8 0) 1 1 Tryd.underlying22 hi0 hz0 hz1 hz2 rfl (by decide) v _ _ hs hown ad l.length C (Lib.byteCells l) hx (by rw [Lib.byteCells_length, Nat.mul_one]) ?_ ?_ (by unfold maxLen; omega) (by omega) hBw ?_
    · intro j u hu
      have hj : j < l.length := by
        have := (List.getElem?_eq_some_iff.1 hu).1
        rwa [Lib.byteCells_length] at this
      obtain ⟨e1, _⟩ := h2 (by omega)
      injection e1 with e1
      subst e1
      have hadd : (⟨b, off, none⟩ : Addr).add j = ⟨b, off + j, none⟩ := by unfold Addr.add; split <;> simp_all
      rw [hadd, h3 j hj]
      simp only [Lib.byteCells, List.getElem?_map, List.getElem?_eq_getElem hj, Option.map_some, Option.some.injEq] at hu
      rw [← hu, List.getD, List.getElem?_eq_getElem hj]
      rfl
    · intro u hu
      simp only [Lib.byteCells, List.mem_map] at hu
      obtain ⟨y, _, rfl⟩ := hu
      rfl
    · intro v' w' hown' hgrow _
      refine h v' w' (own_of hown' (by rw [List.length_append]) (by rw [Lib.byteCells_append])) ?_
      exact (Below.refl B w).grown hgrow hBw (fun k hk => (hown.lt k hk).1)

/-- One word of a request. -/
def wordEnc (l : List UInt8) : List UInt8 := num 36 l.length ++ l ++ [13, 10]
/-- The first k words of a request. -/
def reqTo (W : List (List UInt8)) : Nat → List UInt8
  | 0 => []
  | k + 1 => reqTo W k ++ wordEnc (W.getD k [])
/-- The text of a request. -/
def req (W : List (List UInt8)) : List UInt8 := num 42 W.length ++ reqTo W W.length
/-- How many bytes the first k words hold. -/
def sumW (W : List (List UInt8)) : Nat → Nat
  | 0 => 0
  | k + 1 => sumW W k + (W.getD k []).length

theorem sumW_mono (W : List (List UInt8)) {k n : Nat} (h : k ≤ n) : sumW W k ≤ sumW W n := by
  induction n with
  | zero => have : k = 0 := by omega
            subst this; exact Nat.le_refl _
  | succ n ih =>
    by_cases e : k = n + 1
    · subst e; exact Nat.le_refl _
    · exact Nat.le_trans (ih (by omega)) (Nat.le_add_right _ _)

theorem num_len (k : UInt8) (n : Nat) : (num k n).length = (Lib.decDigits n).length + 3 := by simp [num]

theorem reqTo_len (W : List (List UInt8)) : ∀ k, sumW W k ≤ 1048576 → (reqTo W k).length ≤ 26 * k + sumW W k
  | 0, _ => by simp [reqTo]
  | k + 1, h => by
    have h1 : sumW W (k + 1) = sumW W k + (W.getD k []).length := rfl
    have ih := reqTo_len W k (by omega)
    have hd := digits_le (W.getD k []).length (by omega)
    have h2 : reqTo W (k + 1) = reqTo W k ++ wordEnc (W.getD k []) := rfl
    rw [h2, List.length_append, wordEnc, List.length_append, List.length_append, num_len, h1]
    simp only [List.length_cons, List.length_nil]
    omega

set_option maxHeartbeats 1000000 in
/-- 'AppendRequest', onto a slice that the call owns. -/
theorem request_any (B B' : Nat) (A : Option Addr) (cap : Nat) (W : List (List UInt8)) (sv : Value) (l : List UInt8) (w : World) (hown : Own B w sv l) (hW : WordsAt B' w A W) (hB : B' ≤ B) (hlen : W.length ≤ 65536) (hsum : sumW W W.length ≤ 1048576)
    (hlim : l.length ≤ 1048576) (hBw : B ≤ w.heap.size) (htab : Tab B w) :
    Calls Tryd.prog 7 #[sv, .slice A W.length cap] w fun e w' => ∃ v', e = .returned v' ∧ Own B w' v' (l ++ req W) ∧ Below B w w' := by
  obtain ⟨i0, hi0, hz0, hz1, hz2⟩ := info_parts Tryd.info5
  go_enter Tryd.func7, Tryd.ntmps7
  go_wp2_with fail
  refine (number_any B 42 W.length (by omega) sv l w hown hBw (by omega) htab).mono ?_
  rintro e w1 ⟨v1, rfl, hown1, hb1⟩
  go_wp2_with fail
  have hdl := digits_le W.length (by omega)
  go_loopw [0, 13] (fun v i wr => ∃ k : Nat, k ≤ W.length ∧ i = .int .i64 k ∧ Own B wr v (l ++ num 42 W.length ++ reqTo W k) ∧ Below B w wr) (fun _ i _ => W.length - (intOf i).toNat)
  case atStart => exact ⟨0, Nat.zero_le _, rfl, by simpa [reqTo] using hown1, hb1⟩
  case round =>
    clear hown1 hb1
    obtain ⟨k, hk, rfl, hownk, hbk⟩ := hrel
    by_cases hlt : k < W.length
    · obtain ⟨b, off, hWA, hWr⟩ := hW
      obtain ⟨rfl, hbB⟩ := hWA (by omega)
      obtain ⟨A', C, hcw, hword⟩ := hWr k hlt
      have hword' := hword.on hbk hB
      obtain ⟨x, hx⟩ : ∃ x, x = W.getD k [] := ⟨_, rfl⟩
      rw [← hx] at hcw hword'
      have hsm : sumW W (k + 1) ≤ sumW W W.length := sumW_mono W hlt
      have hsk : sumW W (k + 1) = sumW W k + x.length := by rw [hx]; rfl
      have hrl := reqTo_len W k (by omega)
      have HR : Hid (reqTo W (k + 1) = reqTo W k ++ wordEnc x) := by rw [hx]; rfl
      have hcx : wr.cell? ⟨b, off + k, none⟩ = some (.slice A' x.length C) := (hbk.cell (p := ⟨b, off + k, none⟩) (by show b < B; omega)).trans hcw
      have hsz := hbk.size
      have hxb : x.length ≤ 1048576 := by omega
      have hlb : (l ++ num 42 W.length ++ reqTo W k).length ≤ 1048576 + 24 + 26 * 65536 + 1048576 := by
        rw [List.length_append, List.length_append, num_len]; omega
      have hdx := digits_le x.length hxb
      clear hword hWr hx hcw hsk hsm
      obtain ⟨L, hL⟩ : ∃ L, L = l ++ num 42 W.length ++ reqTo W k := ⟨_, rfl⟩
      rw [← hL] at hownk hlb
      have HL : Hid (L = l ++ num 42 W.length ++ reqTo W k) := hL
      clear hL hWA
      go_wp2_with fail
      refine (number_any B 36 x.length hxb _ L wr hownk (by omega) (by omega) (htab.on hbk)).mono ?_
      rintro e w2 ⟨v2, rfl, hown2, hb2⟩
      have hb02 := hbk.trans hb2
      have hword2 := hword'.on hb2 hB
      have hsz2 := hb2.size
      have hl2 : (L ++ num 36 x.length).length ≤ 1048576 + 24 + 26 * 65536 + 1048576 + 24 := by rw [List.length_append, num_len]; omega
      obtain ⟨L2, hL2⟩ : ∃ L2, L2 = L ++ num 36 x.length := ⟨_, rfl⟩
      rw [← hL2] at hown2 hl2
      have HL2 : Hid (L2 = L ++ num 36 x.length) := hL2
      clear hL2 hword' hcx
      go_wp2_with (first
        | (at_builtin; refine wpList_append_word rfl _ _ rfl B B' _ L2 x rfl hown2 A' C rfl hword2 (by omega) (by omega) ?_; intro v3 w3 hown3 hb3; have hl3 : (L2 ++ x).length ≤ 10000000 := (by rw [List.length_append]; omega); have hsz3 := hb3.size)
        | (at_builtin; refine Lib.wpList_append_own_string _ rfl _ _ 22 9 rfl B 5 i0 Tryd.underlying22 Tryd.underlying9 hi0 hz0 hz1 hz2 _ _ _ rfl hown3 ⟨#[13, 10]⟩ rfl (by rw [crlf_size]; unfold maxLen; omega) (by rw [crlf_size]; omega) (by omega) ?_; intro v4 w4 hown4 hgrow4 _))
      have hb4 : Below B w w4 := (hb02.trans hb3).grown hgrow4 (by omega) (fun x hx => (hown3.lt x hx).1)
      have hown5 : Own B w4 v4 (l ++ num 42 W.length ++ reqTo W (k + 1)) := by
        rw [HR.out]
        refine own_of hown4 ?_ ?_
        · try rw [crlf_size]
          rw [HL2.out, HL.out, wordEnc]
          simp only [List.length_append, List.length_cons, List.length_nil]
          omega
        · rw [crlf_cells, ← Lib.byteCells_append, HL2.out, HL.out, wordEnc]; simp [List.append_assoc]
      clear hown4
      go_roundw
      case rel => exact ⟨k + 1, by omega, by go_num, hown5, hb4⟩
      case measure => simp [intOf]; omega
    · obtain rfl : k = W.length := by omega
      go_wp2
      go_ret
      refine ⟨_, rfl, ?_, hbk⟩
      rw [req, ← List.append_assoc]
      exact hownk

end Go.Proofs.Qxb6629317aDoor
