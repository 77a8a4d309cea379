/-
  DERIVED. Seat b6629317aD: the contract of zzReadNum.
-/
import Derived.Test.Qxb6629317aDoorPlain
namespace Go.Proofs.Qxb6629317aDoor
open Go.RowKit

/-- The bytes l lie at ⟨b, off⟩. -/
def Rd (w : World) (b off : Nat) (l : List UInt8) : Prop := ∀ j, j < l.length → w.cell? ⟨b, off + j, none⟩ = some (.int .u8 ((l.getD j 0).toNat : Int))

theorem ret3_mid {x y : Value} {a b : Int} (h : a = b) : Ending.returned (.tuple #[x, .int .i64 a, y]) = .returned (.tuple #[x, .int .i64 b, y]) := by rw [h]

set_option maxHeartbeats 1600000 in
set_option maxRecDepth 100000 in
theorem readNum_any (b off cap : Nat) (L : List UInt8) (p : Nat) (k : UInt8) (n : Nat) (w : World) (hn : n ≤ 1048576) (hLl : L.length ≤ 140737488355328) (hrd : Rd w b off L) (hat : NumAt L p k n) :
    Calls Tryd.prog 14 #[.slice (some ⟨b, off, none⟩) L.length cap, .int .i64 p, .int .u8 (k.toNat : Int)] w fun e w' =>
      e = .returned (.tuple #[.int .i64 n, .int .i64 ((p + Lib.nDigits n + 3 : Nat) : Int), .bool true]) ∧ w = w' := by
  have hlen := hat.len
  have hck : w.cell? ⟨b, off + p, none⟩ = some (.int .u8 (k.toNat : Int)) := by
    have := hrd p (by omega)
    rw [hat.kind] at this
    exact this
  obtain ⟨D, hD⟩ : ∃ D, D = Lib.nDigits n := ⟨_, rfl⟩
  have hD1 : 1 ≤ D := by rw [hD]; exact Lib.nDigits_pos n
  have HD : Hid (D = Lib.nDigits n) := hD
  have hpl : (p : Int) < (L.length : Int) := by omega
  have d1 : decide ((p : Int) < 0) = false := decide_eq_false (by omega)
  have d2 : decide (L.length ≤ p) = false := decide_eq_false (by omega)
  rw [← hD] at hlen
  rw [← hD]
  clear hD
  go_enter Tryd.func14, Tryd.ntmps14
  go_wp2_with fail
  go_loop [9, 11] (fun q v => ∃ j m : Nat, j ≤ D ∧ m = p + 1 + j ∧ q = .int .i64 m ∧ v = .int .i64 (va n j)) (fun q _ => L.length - (intOf q).toNat)
  case atStart => exact ⟨0, p + 1, Nat.zero_le _, rfl, by go_num, by rw [va_zero]; rfl⟩
  case round =>
    obtain ⟨j, m, hj, hm, rfl, rfl⟩ := hrel
    have hml : m + 2 ≤ L.length := by omega
    have HM : Hid (m = p + 1 + j) := hm
    have hvl := va_le n j
    by_cases hlt : j < D
    · have hr := dig_range n j (by rw [← HD.out]; exact hlt)
      have hcq : w.cell? ⟨b, off + m, none⟩ = some (.int .u8 (((Lib.decDigits n).getD j 0).toNat : Int)) := by
        rw [hm, ← hat.dig j (by rw [← HD.out]; exact hlt)]
        exact hrd (p + 1 + j) (by omega)
      have HV : Hid (va n (j + 1) = va n j * 10 + (((Lib.decDigits n).getD j 0).toNat - 48)) := va_succ n j (by rw [← HD.out]; exact hlt)
      obtain ⟨x, hx⟩ : ∃ x, x = ((Lib.decDigits n).getD j 0).toNat := ⟨_, rfl⟩
      rw [← hx] at hr hcq HV
      obtain ⟨hr1, hr2⟩ := hr
      clear hx hm hck
      obtain ⟨v, hv⟩ : ∃ v, v = va n j := ⟨_, rfl⟩
      rw [← hv] at hvl HV
      rw [← hv]
      clear hv
      have hml' : (m : Int) < (L.length : Int) := by omega
      go_wp2
      go_round
      case rel =>
        refine ⟨j + 1, m + 1, by omega, by have := HM.out; omega, by go_num, ?_⟩
        rw [HV.out]
        go_num
      case measure => simp [intOf]; omega
    · obtain rfl : j = D := by omega
      have hc13 : w.cell? ⟨b, off + m, none⟩ = some (.int .u8 13) := by
        have := hrd m (by omega)
        rw [hm, HD.out, hat.cr] at this
        rw [hm, HD.out]
        exact this
      have hc10 : w.cell? ⟨b, off + (m + 1), none⟩ = some (.int .u8 10) := by
        have := hrd (m + 1) (by omega)
        rw [hm, HD.out, hat.lf] at this
        rw [hm, HD.out]
        exact this
      have hve : va n j = n := by rw [HD.out]; exact va_end n
      rw [hve]
      have hcs : w.cell? ⟨b, off + (p + 1), none⟩ = some (.int .u8 (((Lib.decDigits n).getD 0 0).toNat : Int)) := by
        have := hrd (p + 1) (by omega)
        rw [← hat.dig 0 (by rw [← HD.out]; omega)]
        exact this
      have hfd : 1 < j → ((Lib.decDigits n).getD 0 0).toNat ≠ 48 := fun h => first_dig n (by rw [← HD.out]; exact h)
      obtain ⟨y, hy⟩ : ∃ y, y = ((Lib.decDigits n).getD 0 0).toNat := ⟨_, rfl⟩
      rw [← hy] at hcs hfd
      clear hy hve hck hm
      have hml' : (m : Int) < (L.length : Int) := by omega
      have hmp := HM.out
      have hret : ((p + j + 3 : Nat) : Int) = (m : Int) + 2 := by omega
      have HRET : Hid (((p + j + 3 : Nat) : Int) = (m : Int) + 2) := hret
      clear hret
      by_cases h1 : j = 1
      · have hge : (p : Int) + 2 ≤ m := by omega
        have hle : (m : Int) ≤ p + 2 := by omega
        clear hmp
        go_wp2
        go_ret3
        exact ⟨ret3_mid (x := .int .i64 n) (a := (m : Int) + 2) (y := .bool true) (by have := HRET.out; omega), rfl⟩
      · have hge : (p : Int) + 3 ≤ m := by omega
        have hy48 : ((y : Int) == 48) = false := by
          have := hfd (by omega)
          simp; omega
        clear hmp hfd
        go_wp2
        go_ret3
        exact ⟨ret3_mid (x := .int .i64 n) (a := (m : Int) + 2) (y := .bool true) (by have := HRET.out; omega), rfl⟩

end Go.Proofs.Qxb6629317aDoor
