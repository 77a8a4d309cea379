/-
  DERIVED. Seat b6629377a: the log form in plain words; the contract of Writes.Size.
-/
import Derived.Test.Qxb6629377aCopies
namespace Go.Proofs.Qxb6629377a
open Go.RowKit

/-- How many bytes the first k pieces hold. -/
def sumW (W : List (List UInt8)) : Nat → Nat
  | 0 => 0
  | k + 1 => sumW W k + (W.getD k []).length

theorem sumW_mono (W : List (List UInt8)) {k n : Nat} (h : k ≤ n) : sumW W k ≤ sumW W n := by
  induction n with
  | zero => have : k = 0 := by omega
            subst this; exact Nat.le_refl _
  | succ n ih =>
    by_cases e : k = n + 1
    · subst e; exact Nat.le_refl _
    · exact Nat.le_trans (ih (by omega)) (Nat.le_add_right _ _)

/-- The bytes of D from a up to b. -/
def seg (D : List UInt8) (a b : Nat) : List UInt8 := (D.take b).drop a
/-- Where the writes go on behind k pieces. -/
def fr (wh : Nat) (ats : List Nat) : Nat → Nat
  | 0 => wh
  | k + 1 => ats.getD k 0
/-- The log form up to and with the first k pieces. -/
def logTo (D : List UInt8) (wh : Nat) (ats : List Nat) (Ls : List (List UInt8)) : Nat → List UInt8
  | 0 => []
  | k + 1 => logTo D wh ats Ls k ++ seg D (fr wh ats k) (fr wh ats (k + 1)) ++ Ls.getD k []
/-- The log form. -/
def logForm (D : List UInt8) (wh : Nat) (ats : List Nat) (Ls : List (List UInt8)) : List UInt8 := logTo D wh ats Ls Ls.length ++ seg D (fr wh ats Ls.length) D.length
/-- The places stand in order between wh and the end. -/
def InOrder (D : List UInt8) (wh : Nat) (ats : List Nat) (n : Nat) : Prop := wh ≤ D.length ∧ ∀ k, k < n → fr wh ats k ≤ fr wh ats (k + 1) ∧ fr wh ats (k + 1) ≤ D.length

theorem seg_len (D : List UInt8) (a b : Nat) (h : b ≤ D.length) : (seg D a b).length = b - a := by
  rw [seg, List.length_drop, List.length_take]; omega

theorem seg_self (D : List UInt8) (a : Nat) : seg D a a = [] := by
  rw [seg]; exact List.drop_eq_nil_of_le (by rw [List.length_take]; omega)

theorem seg_snoc (D : List UInt8) (a b : Nat) (h : a ≤ b) (hb : b < D.length) : seg D a (b + 1) = seg D a b ++ [D.getD b 0] := by
  rw [seg, seg, List.take_succ_eq_append_getElem hb, List.drop_append_of_le_length (by rw [List.length_take]; omega), List.getD, List.getElem?_eq_getElem hb]
  rfl

theorem seg_over (D : List UInt8) (a b : Nat) (h : D.length ≤ b) : seg D a b = seg D a D.length := by
  rw [seg, seg, List.take_of_length_le h, List.take_length]

theorem seg_getD (D : List UInt8) (a b j : Nat) (hj : j < b - a) : (seg D a b).getD j 0 = D.getD (a + j) 0 := by
  rw [seg, List.getD, List.getElem?_drop, List.getElem?_take_of_lt (by omega), List.getD]

theorem InOrder.le {D : List UInt8} {wh : Nat} {ats : List Nat} {n : Nat} (h : InOrder D wh ats n) : ∀ k, k ≤ n → wh ≤ fr wh ats k ∧ fr wh ats k ≤ D.length
  | 0, _ => ⟨Nat.le_refl _, h.1⟩
  | k + 1, hk => by
    have h1 := InOrder.le h k (by omega)
    have h2 := h.2 k (by omega)
    omega

theorem logTo_len {D : List UInt8} {wh : Nat} {ats : List Nat} {n : Nat} (Ls : List (List UInt8)) (h : InOrder D wh ats n) : ∀ k, k ≤ n → (logTo D wh ats Ls k).length = fr wh ats k - wh + sumW Ls k
  | 0, _ => by simp [logTo, fr, sumW]
  | k + 1, hk => by
    have h1 := logTo_len Ls h k (by omega)
    have h2 := h.2 k (by omega)
    have h3 := h.le k (by omega)
    rw [logTo, List.length_append, List.length_append, h1, seg_len _ _ _ h2.2, sumW]
    omega

theorem logForm_len {D : List UInt8} {wh : Nat} {ats : List Nat} (Ls : List (List UInt8)) (h : InOrder D wh ats Ls.length) : (logForm D wh ats Ls).length = D.length - wh + sumW Ls Ls.length := by
  have h1 := logTo_len Ls h _ (Nat.le_refl _)
  have h2 := h.le _ (Nat.le_refl _)
  rw [logForm, List.length_append, h1, seg_len _ _ _ (Nat.le_refl _)]
  omega

/-- The pieces held apart, as they stand in the writes: their places and their bytes, below B. -/
def LargeAt (B : Nat) (w : World) (AL : Option Addr) (ats : List Nat) (Ls : List (List UInt8)) : Prop :=
  ∃ g, (0 < Ls.length → AL = some ⟨g, 0, none⟩ ∧ g < B) ∧ ∀ k, k < Ls.length → w.cell? ⟨g, k * 2, none⟩ = some (.int .i64 ((ats.getD k 0 : Nat) : Int)) ∧ ∃ A C, w.cell? ⟨g, k * 2 + 1, none⟩ = some (.slice A (Ls.getD k []).length C) ∧ WordAt B w A C (Ls.getD k [])

theorem LargeAt.on {B B' : Nat} {w w' : World} {AL : Option Addr} {ats : List Nat} {Ls : List (List UInt8)} (h : LargeAt B w AL ats Ls) (hb : Below B' w w') (hB : B ≤ B') : LargeAt B w' AL ats Ls := by
  obtain ⟨g, h1, h2⟩ := h
  refine ⟨g, h1, fun k hk => ?_⟩
  obtain ⟨e1, A, C, e2, e3⟩ := h2 k hk
  have := (h1 (by omega)).2
  refine ⟨?_, A, C, ?_, e3.on hb hB⟩
  · rw [hb.cell (p := ⟨g, k * 2, none⟩) (by show g < B'; omega)]; exact e1
  · rw [hb.cell (p := ⟨g, k * 2 + 1, none⟩) (by show g < B'; omega)]; exact e2

theorem LargeAt.up {B B' : Nat} {w : World} {AL : Option Addr} {ats : List Nat} {Ls : List (List UInt8)} (h : LargeAt B w AL ats Ls) (hB : B ≤ B') : LargeAt B' w AL ats Ls := by
  obtain ⟨g, h1, h2⟩ := h
  refine ⟨g, fun h => ⟨(h1 h).1, by have := (h1 h).2; omega⟩, fun k hk => ?_⟩
  obtain ⟨e1, A, C, e2, e3⟩ := h2 k hk
  exact ⟨e1, A, C, e2, e3.up hB⟩

theorem ret_int {a b : Int} (h : a = b) : Ending.returned (.int .i64 a) = .returned (.int .i64 b) := by rw [h]

set_option maxHeartbeats 800000 in
theorem size_any (n : Int) (wh d : Nat) (Ad AL : Option Addr) (cd cL : Nat) (ats : List Nat) (Ls : List (List UInt8)) (w : World) (hd : d ≤ 1048576) (hwh : wh ≤ d) (hsum : Ls.length + sumW Ls Ls.length ≤ 1048576) (hL : LargeAt w.heap.size w AL ats Ls) :
    Calls Try.prog 12 #[.agg #[.int .i64 n, .int .i64 wh, .slice Ad d cd, .slice AL Ls.length cL]] w fun e w' => e = .returned (.int .i64 ((d - wh + sumW Ls Ls.length : Nat) : Int)) ∧ Below w.heap.size w w' := by
  go_enter Try.func12, Try.ntmps12
  go_wp2_with fail
  go_loopw [3, 15] (fun z i wr => ∃ k m : Nat, k ≤ Ls.length ∧ i = .int .i64 k ∧ z = .int .i64 m ∧ m = d - wh + sumW Ls k ∧ Below w.heap.size w wr) (fun _ i _ => Ls.length - (intOf i).toNat)
  case atStart => exact ⟨0, d - wh, Nat.zero_le _, rfl, by go_num, rfl, (Below.refl _ _).alloc (Nat.le_refl _) _⟩
  case round =>
    obtain ⟨k, m, hk, rfl, rfl, hme, hbk⟩ := hrel
    have HM : Hid (m = d - wh + sumW Ls k) := hme
    have hsz := hbk.size
    have hsm := sumW_mono Ls hk
    have hmb : m ≤ 4194304 := by omega
    clear hme hsm
    by_cases hlt : k < Ls.length
    · obtain ⟨g, h1, h2⟩ := hL.on hbk (Nat.le_refl _)
      obtain ⟨rfl, hgB⟩ := h1 (by omega)
      obtain ⟨e1, A, C, e2, _⟩ := h2 k hlt
      obtain ⟨x, hx⟩ : ∃ x, x = (Ls.getD k []).length := ⟨_, rfl⟩
      have HS : Hid (sumW Ls (k + 1) = sumW Ls k + x) := by rw [hx]; rfl
      have hsm1 : sumW Ls (k + 1) ≤ sumW Ls Ls.length := sumW_mono Ls hlt
      have hxb : x ≤ 1048576 := by have := HS.out; omega
      obtain ⟨p, hp⟩ : ∃ p, p = ats.getD k 0 := ⟨_, rfl⟩
      rw [← hx] at e2
      rw [← hp] at e1
      clear hx hp h1 h2 hsm1 hL
      go_wp2_with fail
      go_roundw
      case rel => exact ⟨k + 1, m + x, by omega, by go_num, by go_num, by rw [HS.out, HM.out]; omega, hbk.alloc hsz _⟩
      case measure => simp [intOf]; omega
    · obtain rfl : k = Ls.length := by omega
      go_wp2
      go_ret
      exact ⟨ret_int (by have := HM.out; omega), hbk⟩

end Go.Proofs.Qxb6629377a
