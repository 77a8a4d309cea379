/-
  DERIVED. Seat b6629317aD: the contract of zzDecodesTo.
-/
import Derived.Test.Qxb6629317aDoorRead
import Derived.Deep.QuietTactic
import Derived.BigQuiet
namespace Go.Proofs.Qxb6629317aDoor
open Go.RowKit

/-- Where word k begins in the text of a request. -/
def place (W : List (List UInt8)) (k : Nat) : Nat := (num 42 W.length).length + (reqTo W k).length

theorem reqTo_split (W : List (List UInt8)) (k : Nat) : ∀ n, k < n → ∃ post, reqTo W n = reqTo W k ++ (wordEnc (W.getD k []) ++ post)
  | 0, h => absurd h (by omega)
  | n + 1, h => by
    by_cases e : k = n
    · subst e
      exact ⟨[], by rw [List.append_nil]; rfl⟩
    · obtain ⟨post, hp⟩ := reqTo_split W k n (by omega)
      exact ⟨post ++ wordEnc (W.getD n []), by rw [reqTo, hp]; simp only [List.append_assoc]⟩

theorem req_head (W : List (List UInt8)) : NumAt (req W) 0 42 W.length := ⟨[], reqTo W W.length, by rw [List.nil_append]; rfl, rfl⟩

theorem req_word (W : List (List UInt8)) (k : Nat) (h : k < W.length) : ∃ post, req W = (num 42 W.length ++ reqTo W k) ++ (num 36 (W.getD k []).length ++ ((W.getD k [] ++ ([13, 10] ++ post)))) := by
  obtain ⟨post, hp⟩ := reqTo_split W k W.length h
  refine ⟨post, ?_⟩
  rw [req, hp, wordEnc]
  simp only [List.append_assoc]

theorem req_num (W : List (List UInt8)) (k : Nat) (h : k < W.length) : NumAt (req W) (place W k) 36 (W.getD k []).length := by
  obtain ⟨post, hp⟩ := req_word W k h
  exact ⟨_, _, hp, by rw [List.length_append]; rfl⟩

theorem req_byte (W : List (List UInt8)) (k : Nat) (h : k < W.length) (j : Nat) (hj : j < (W.getD k []).length) : (req W).getD (place W k + Lib.nDigits (W.getD k []).length + 3 + j) 0 = (W.getD k []).getD j 0 := by
  obtain ⟨post, hp⟩ := req_word W k h
  have e1 : (num 42 W.length ++ reqTo W k).length = place W k := by rw [List.length_append]; rfl
  have e2 := num_len 36 (W.getD k []).length
  rw [Lib.decDigits_length] at e2
  rw [hp, Nat.add_assoc, Nat.add_assoc, ← e1, getD_right, ← Nat.add_assoc, ← e2, getD_right, getD_left _ _ _ _ hj]

theorem req_cr (W : List (List UInt8)) (k : Nat) (h : k < W.length) : (req W).getD (place W k + Lib.nDigits (W.getD k []).length + 3 + (W.getD k []).length) 0 = 13 ∧ (req W).getD (place W k + Lib.nDigits (W.getD k []).length + 3 + (W.getD k []).length + 1) 0 = 10 := by
  obtain ⟨post, hp⟩ := req_word W k h
  have e1 : (num 42 W.length ++ reqTo W k).length = place W k := by rw [List.length_append]; rfl
  have e2 := num_len 36 (W.getD k []).length
  rw [Lib.decDigits_length] at e2
  constructor
  · rw [hp, Nat.add_assoc, Nat.add_assoc, ← e1, getD_right, ← Nat.add_assoc, ← e2, getD_right]
    have := getD_right (W.getD k []) ([13, 10] ++ post) 0 0
    rw [Nat.add_zero] at this
    rw [this]
    rfl
  · rw [hp, Nat.add_assoc, Nat.add_assoc, Nat.add_assoc, ← e1, getD_right, ← Nat.add_assoc, ← e2, getD_right, getD_right]
    rfl

theorem place_succ (W : List (List UInt8)) (k : Nat) : place W (k + 1) = place W k + Lib.nDigits (W.getD k []).length + 3 + (W.getD k []).length + 2 := by
  have e2 := num_len 36 (W.getD k []).length
  rw [Lib.decDigits_length] at e2
  unfold place
  rw [reqTo, List.length_append, wordEnc, List.length_append, List.length_append, e2]
  simp only [List.length_cons, List.length_nil]
  omega

theorem place_zero (W : List (List UInt8)) : place W 0 = 0 + Lib.nDigits W.length + 3 := by
  have e2 := num_len 42 W.length
  rw [Lib.decDigits_length] at e2
  unfold place
  rw [e2]
  simp [reqTo]

theorem place_end (W : List (List UInt8)) : place W W.length = (req W).length := by
  rw [req, List.length_append]; rfl

theorem place_le (W : List (List UInt8)) {k : Nat} (h : k < W.length) : place W (k + 1) ≤ (req W).length := by
  obtain ⟨post, hp⟩ := req_word W k h
  have e2 := num_len 36 (W.getD k []).length
  rw [Lib.decDigits_length] at e2
  rw [place_succ, hp]
  unfold place
  simp only [List.length_append, List.length_cons, List.length_nil, e2]
  omega

theorem cell_drewN (w : World) (n : Nat) (a : Addr) : (w.drewN n).cell? a = w.cell? a := rfl

set_option maxHeartbeats 1600000 in
set_option maxRecDepth 100000 in
theorem decodes_any (B g off cap : Nat) (A : Option Addr) (cap' : Nat) (W : List (List UInt8)) (w : World) (hlen : W.length ≤ 65536) (hsum : sumW W W.length ≤ 1048576) (hLl : (req W).length ≤ 140737488355328) (hrd : Rd w g off (req W)) (hW : WordsAt B w A W) :
    Calls Tryd.prog 8 #[.slice (some ⟨g, off, none⟩) (req W).length cap, .slice A W.length cap'] w fun e w' => e = .returned (.bool true) ∧ ∃ n, w' = w.drewN n := by
  obtain ⟨L, hL⟩ : ∃ L, L = req W := ⟨_, rfl⟩
  have HL : Hid (L = req W) := hL
  have hh : NumAt L 0 42 W.length := by rw [hL]; exact req_head W
  have hhl := hh.len
  rw [← hL] at hLl hrd
  rw [← hL]
  clear hL
  have HP0 : Hid ((0 + Lib.nDigits W.length + 3 : Nat) = place W 0) := (place_zero W).symm
  go_enter Tryd.func8, Tryd.ntmps8
  go_wp2_with fail
  refine (readNum_any g off cap L 0 42 W.length w (by omega) hLl hrd hh).mono ?_
  rintro e w1 ⟨rfl, rfl⟩
  rw [HP0.out]
  obtain ⟨p0, hp0⟩ : ∃ p0, p0 = place W 0 := ⟨_, rfl⟩
  rw [← hp0]
  have HP : Hid (p0 = place W 0) := hp0
  clear hp0
  go_wp2_with fail
  go_loopw [6, 8] (fun p i wr => ∃ k m q : Nat, k ≤ W.length ∧ i = .int .i64 k ∧ p = .int .i64 m ∧ m = place W k ∧ wr = w.drewN q) (fun _ i _ => W.length - (intOf i).toNat)
  case atStart => exact ⟨0, p0, 0, Nat.zero_le _, rfl, rfl, HP.out, rfl⟩
  case round =>
    obtain ⟨k, m, q, hk, rfl, rfl, hm, rfl⟩ := hrel
    have HM : Hid (m = place W k) := hm
    by_cases hlt : k < W.length
    · obtain ⟨b, o, hWA, hWr⟩ := hW
      obtain ⟨rfl, hbB⟩ := hWA (by omega)
      obtain ⟨A', C, hcw, hword⟩ := hWr k hlt
      have hnum : NumAt L m 36 (W.getD k []).length := by rw [hm, HL.out]; exact req_num W k hlt
      have HB : Hid (∀ j, j < (W.getD k []).length → L.getD (m + Lib.nDigits (W.getD k []).length + 3 + j) 0 = (W.getD k []).getD j 0) := by rw [hm, HL.out]; exact req_byte W k hlt
      have HC : Hid (L.getD (m + Lib.nDigits (W.getD k []).length + 3 + (W.getD k []).length) 0 = 13 ∧ L.getD (m + Lib.nDigits (W.getD k []).length + 3 + (W.getD k []).length + 1) 0 = 10) := by rw [hm, HL.out]; exact req_cr W k hlt
      have HS : Hid (place W (k + 1) = m + Lib.nDigits (W.getD k []).length + 3 + (W.getD k []).length + 2) := by rw [hm]; exact place_succ W k
      have hle := place_le W hlt
      rw [HS.out, ← HL.out] at hle
      have hsm : sumW W (k + 1) ≤ sumW W W.length := sumW_mono W hlt
      have hsk : sumW W (k + 1) = sumW W k + (W.getD k []).length := rfl
      obtain ⟨x, hx⟩ : ∃ x, x = W.getD k [] := ⟨_, rfl⟩
      rw [← hx] at hcw hword hnum HB HC HS hle hsk
      have hxb : x.length ≤ 1048576 := by omega
      clear hx hsk hsm hm hWr hWA
      obtain ⟨_, bw, ow, hwA, hwc⟩ := hword
      have hcx : w.cell? ⟨b, o + k, none⟩ = some (.slice A' x.length C) := hcw
      clear hcw
      go_wp2_with fail
      refine (readNum_any g off cap L m 36 x.length (w.drewN q) hxb hLl hrd hnum).mono ?_
      rintro e w1 ⟨rfl, rfl⟩
      obtain ⟨p1, hp1⟩ : ∃ p1, p1 = m + Lib.nDigits x.length + 3 := ⟨_, rfl⟩
      rw [← hp1] at HB HC HS hle
      rw [← hp1]
      have HP1 : Hid (p1 = m + Lib.nDigits x.length + 3) := hp1
      clear hp1 hcx hnum
      have hfit : ¬ ((L.length : Int) - (p1 : Int) < (x.length : Int) + 2) := by omega
      go_wp2_with fail
      go_loopw [13] (fun i wr => ∃ j q : Nat, j ≤ x.length ∧ i = .int .i64 j ∧ wr = w.drewN q) (fun i _ => x.length - (intOf i).toNat)
      case atStart => exact ⟨0, q, Nat.zero_le _, rfl, rfl⟩
      case round =>
        obtain ⟨j, q', hj, rfl, rfl⟩ := hrel
        by_cases hlj : j < x.length
        · obtain ⟨rfl, _⟩ := hwA (by omega)
          have hc1 : w.cell? ⟨g, off + (p1 + j), none⟩ = some (.int .u8 ((x.getD j 0).toNat : Int)) := by
            have := hrd (p1 + j) (by omega)
            rw [HB.out j hlj] at this
            exact this
          have hc2 := hwc j hlj
          obtain ⟨y, hy⟩ : ∃ y, y = (x.getD j 0).toNat := ⟨_, rfl⟩
          rw [← hy] at hc1 hc2
          clear hy hwc hwA
          have b1 : (p1 : Int) + (j : Int) < (L.length : Int) := by omega
          have b2 : (j : Int) < (x.length : Int) := by omega
          go_wp2_with fail
          go_quiet (fail)
          go_wp2
          go_roundw
          case rel => exact ⟨j + 1, _, by omega, by go_num, rfl⟩
          case measure => simp [intOf]; omega
        · obtain rfl : j = x.length := by omega
          have hc13 : w.cell? ⟨g, off + (p1 + x.length), none⟩ = some (.int .u8 13) := by
            have := hrd (p1 + x.length) (by omega)
            rw [HC.out.1] at this
            exact this
          clear hwc hwA
          have hc10 : w.cell? ⟨g, off + (p1 + x.length + 1), none⟩ = some (.int .u8 10) := by
            have := hrd (p1 + x.length + 1) (by omega)
            rw [HC.out.2] at this
            exact this
          have b1 : (p1 : Int) + (x.length : Int) < (L.length : Int) := by omega
          have b2 : (p1 : Int) + (x.length : Int) + 1 < (L.length : Int) := by omega
          go_wp2
          go_roundw
          case rel => exact ⟨k + 1, p1 + x.length + 2, _, by omega, by go_num, by go_num, HS.out.symm, rfl⟩
          case measure => simp [intOf]; omega
    · obtain rfl : k = W.length := by omega
      have hme : m = L.length := by rw [hm, HL.out]; exact place_end W
      have HME : Hid (m = L.length) := hme
      clear hme hm
      have hcmp : ((m : Int) == (L.length : Int)) = true := by have := HME.out; simp; omega
      go_wp2
      go_ret
      exact ⟨rfl, _, rfl⟩

end Go.Proofs.Qxb6629317aDoor
