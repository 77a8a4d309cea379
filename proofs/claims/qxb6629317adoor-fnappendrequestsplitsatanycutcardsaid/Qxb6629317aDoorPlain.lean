/-
  DERIVED. Seat b6629317aD: plain laws on numerals and on places in a text. No walk.
-/
import Derived.Test.Qxb6629317aDoorReq
namespace Go.Proofs.Qxb6629317aDoor

/-- The number that the first j digits of n's numeral make. -/
def va (n j : Nat) : Nat := n / 10 ^ (Lib.nDigits n - j)

theorem dig_at (n j : Nat) (h : j < Lib.nDigits n) : ((Lib.decDigits n).getD j 0).toNat = 48 + n / 10 ^ (Lib.nDigits n - 1 - j) % 10 := by
  rw [Lib.decDigits_eq, List.getD, List.getElem?_map, List.getElem?_range h]
  simp only [Option.map_some, Option.getD_some, Lib.dg]
  have := Nat.mod_lt (n / 10 ^ (Lib.nDigits n - 1 - j)) (by decide : 10 > 0)
  rw [UInt8.toNat_ofNat']
  omega

theorem va_zero (n : Nat) : va n 0 = 0 := by
  unfold va
  exact Nat.div_eq_of_lt (Lib.lt_pow_nDigits n)

theorem va_end (n : Nat) : va n (Lib.nDigits n) = n := by
  unfold va
  rw [Nat.sub_self, Nat.pow_zero, Nat.div_one]

theorem va_le (n j : Nat) : va n j ≤ n := Nat.div_le_self _ _

theorem va_succ (n j : Nat) (h : j < Lib.nDigits n) : va n (j + 1) = va n j * 10 + (((Lib.decDigits n).getD j 0).toNat - 48) := by
  rw [dig_at n j h]
  unfold va
  have e1 : Lib.nDigits n - (j + 1) = Lib.nDigits n - 1 - j := by omega
  have e2 : Lib.nDigits n - j = (Lib.nDigits n - 1 - j) + 1 := by omega
  rw [e1, e2, Nat.pow_succ, ← Nat.div_div_eq_div_mul]
  omega

theorem dig_range (n j : Nat) (h : j < Lib.nDigits n) : 48 ≤ ((Lib.decDigits n).getD j 0).toNat ∧ ((Lib.decDigits n).getD j 0).toNat ≤ 57 := by
  rw [dig_at n j h]
  omega

theorem pow_le_of_digits (n : Nat) (h : 1 < Lib.nDigits n) : 10 ^ (Lib.nDigits n - 1) ≤ n := by
  by_cases hc : 10 ^ (Lib.nDigits n - 1) ≤ n
  · exact hc
  · exfalso
    have key : ∀ k m : Nat, m < 10 ^ k → 1 ≤ k → Lib.nDigits m ≤ k := by
      intro k
      induction k with
      | zero => intro m _ h1; omega
      | succ k ih =>
        intro m hm _
        by_cases h10 : m < 10
        · rw [Lib.nDigits_small h10]; omega
        · rw [Lib.nDigits_big h10]
          have hk : 1 ≤ k := by
            by_cases e : k = 0
            · subst e; simp at hm; omega
            · omega
          have := ih (m / 10) (by rw [Nat.pow_succ] at hm; omega) hk
          omega
    have := key (Lib.nDigits n - 1) n (by omega) (by omega)
    omega

theorem first_dig (n : Nat) (h : 1 < Lib.nDigits n) : ((Lib.decDigits n).getD 0 0).toNat ≠ 48 := by
  rw [dig_at n 0 (by omega), Nat.sub_zero]
  have h1 := pow_le_of_digits n h
  have h2 := Lib.lt_pow_nDigits n
  have e : Lib.nDigits n = (Lib.nDigits n - 1) + 1 := by omega
  rw [e, Nat.pow_succ] at h2
  have hp : 0 < 10 ^ (Lib.nDigits n - 1) := Nat.pow_pos (by decide)
  have h3 : 1 ≤ n / 10 ^ (Lib.nDigits n - 1) := (Nat.one_le_div_iff hp).2 h1
  have h4 : n / 10 ^ (Lib.nDigits n - 1) < 10 := by rw [Nat.div_lt_iff_lt_mul hp, Nat.mul_comm]; simpa using h2
  omega

/-! ### Places -/
theorem getD_right {α : Type} (a b : List α) (j : Nat) (d : α) : (a ++ b).getD (a.length + j) d = b.getD j d := by
  simp [List.getD, List.getElem?_append_right]

theorem getD_left {α : Type} (a b : List α) (j : Nat) (d : α) (h : j < a.length) : (a ++ b).getD j d = a.getD j d := by
  simp [List.getD, List.getElem?_append_left h]

/-- At place p of L stands the number line of n under k. -/
def NumAt (L : List UInt8) (p : Nat) (k : UInt8) (n : Nat) : Prop := ∃ pre post, L = pre ++ (num k n ++ post) ∧ pre.length = p

theorem NumAt.len {L : List UInt8} {p : Nat} {k : UInt8} {n : Nat} (h : NumAt L p k n) : p + Lib.nDigits n + 3 ≤ L.length := by
  obtain ⟨pre, post, rfl, rfl⟩ := h
  simp only [List.length_append, num_len, Lib.decDigits_length]
  omega

theorem NumAt.kind {L : List UInt8} {p : Nat} {k : UInt8} {n : Nat} (h : NumAt L p k n) : L.getD p 0 = k := by
  obtain ⟨pre, post, rfl, rfl⟩ := h
  have := getD_right pre (num k n ++ post) 0 0
  rw [Nat.add_zero] at this
  rw [this]
  rfl

theorem NumAt.dig {L : List UInt8} {p : Nat} {k : UInt8} {n : Nat} (h : NumAt L p k n) (j : Nat) (hj : j < Lib.nDigits n) : L.getD (p + 1 + j) 0 = (Lib.decDigits n).getD j 0 := by
  obtain ⟨pre, post, rfl, rfl⟩ := h
  rw [Nat.add_assoc, getD_right, Nat.add_comm 1 j]
  show ((Lib.decDigits n ++ [13, 10]) ++ post).getD j 0 = _
  rw [List.append_assoc, getD_left _ _ _ _ (by rw [Lib.decDigits_length]; exact hj)]

theorem NumAt.cr {L : List UInt8} {p : Nat} {k : UInt8} {n : Nat} (h : NumAt L p k n) : L.getD (p + 1 + Lib.nDigits n) 0 = 13 := by
  obtain ⟨pre, post, rfl, rfl⟩ := h
  rw [Nat.add_assoc, getD_right, Nat.add_comm 1]
  show ((Lib.decDigits n ++ [13, 10]) ++ post).getD (Lib.nDigits n) 0 = _
  rw [List.append_assoc, ← Lib.decDigits_length, ← Nat.add_zero (Lib.decDigits n).length, getD_right]
  rfl

theorem NumAt.lf {L : List UInt8} {p : Nat} {k : UInt8} {n : Nat} (h : NumAt L p k n) : L.getD (p + 1 + Lib.nDigits n + 1) 0 = 10 := by
  obtain ⟨pre, post, rfl, rfl⟩ := h
  rw [Nat.add_assoc, Nat.add_assoc, getD_right, ← Nat.add_assoc, Nat.add_comm (1 + _) 1, ← Nat.add_assoc, Nat.add_comm (1 + 1)]
  show ((Lib.decDigits n ++ [13, 10]) ++ post).getD (Lib.nDigits n + 1) 0 = _
  rw [List.append_assoc, ← Lib.decDigits_length, getD_right]
  rfl

end Go.Proofs.Qxb6629317aDoor
