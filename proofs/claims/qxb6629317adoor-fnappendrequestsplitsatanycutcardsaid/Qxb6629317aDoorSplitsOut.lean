/-
  DERIVED. Seat b6629317aD: 'FnAppendRequestSplitsAtAnyCut' for every cut.
-/
import Derived.Test.Qxb6629317aDoorSplits
namespace Go.Proofs.Qxb6629317aDoor
open Go.RowKit

set_option maxHeartbeats 1600000 in
set_option maxRecDepth 100000 in
/-- A cut that lies outside: the law answers true at once. -/
theorem splits_out (A : Option Addr) (cap : Nat) (W : List (List UInt8)) (z : Int) (w : World) (hlen : W.length ≤ 140737488355328) (hW : WordsAt w.heap.size w A W)
    (hz : (if z < 0 then true else decide ((W.length : Int) < z)) = true) :
    Calls Tryd.prog 4 #[.slice A W.length cap, .int .i64 z] w fun e w' => e = .returned (.bool true) ∧ Below w.heap.size w w' := by
  have HZ : Hid (z < 0 ∨ (W.length : Int) < z) := by
    by_cases h : z < 0
    · exact .inl h
    · simp [h] at hz
      exact .inr hz
  clear hz
  go_enter Tryd.func4, Tryd.ntmps4
  go_wp2_with (first
    | (go_at_call 9; refine (bytes9_any w.heap.size (.int .i64 z) A cap W w hlen hW).mono ?_; rintro e w' ⟨rfl, r, rfl, hr⟩))
  · go_ret
    exact ⟨rfl, Below.refl _ _⟩
  · go_ret
    exact ⟨rfl, Below.refl _ _⟩
  have hr' : W.length + sumW W W.length ≤ 1048576 := hr (by simpa using (by assumption : (!r) = false))
  clear hr
  go_loop [5, 6] (fun z i => ∃ (k m : Nat), k ≤ W.length ∧ i = .int .i64 k ∧ z = .int .i64 m ∧ m = 8 * W.length + sumW W k) (fun _ i => W.length - (intOf i).toNat)
  case atStart => exact ⟨0, 8 * W.length, Nat.zero_le _, rfl, by go_num, rfl⟩
  case round =>
    obtain ⟨k, m, hk, rfl, rfl, hme⟩ := hrel
    have HM : Hid (m = 8 * W.length + sumW W k) := hme
    have hsm := sumW_mono W hk
    have hmb : m ≤ 16777216 := by omega
    clear hme
    by_cases hlt : k < W.length
    · obtain ⟨b, off, hA, hrr⟩ := hW.word
      obtain ⟨rfl, _⟩ := hA (by omega)
      obtain ⟨A', C, hcx⟩ := hrr k hlt
      obtain ⟨x, hx⟩ : ∃ x, x = (W.getD k []).length := ⟨_, rfl⟩
      have HS : Hid (sumW W (k + 1) = sumW W k + x) := by rw [hx]; rfl
      have hsm1 : sumW W (k + 1) ≤ sumW W W.length := sumW_mono W hlt
      have hxb : x ≤ 1048576 := by have := HS.out; omega
      rw [← hx] at hcx
      clear hx hrr hA hsm1 hsm
      go_wp2
      · go_ret
        exact ⟨rfl, Below.refl _ _⟩
      · go_round
        case rel => exact ⟨k + 1, m + x, by omega, by go_num, by go_num, by rw [HS.out, HM.out]; omega⟩
        case measure => simp [intOf]; omega
    · clear HM hsm
      by_cases hn : z < 0
      · have hd : decide (z < 0) = true := decide_eq_true hn
        go_wp2
        go_ret
        exact ⟨rfl, Below.refl _ _⟩
      · have hd : decide (z < 0) = false := decide_eq_false hn
        have hd2 : decide ((W.length : Int) < z) = true := decide_eq_true (by rcases HZ.out with h | h; exact absurd h hn; exact h)
        go_wp2
        go_ret
        exact ⟨rfl, Below.refl _ _⟩

theorem splits_any (A : Option Addr) (cap : Nat) (W : List (List UInt8)) (z : Int) (w : World) (hlen : W.length ≤ 140737488355328) (hcap : W.length ≤ cap) (hcap2 : cap ≤ 9223372036854775807) (hW : WordsAt w.heap.size w A W) (htab : Tab w.heap.size w) :
    Calls Tryd.prog 4 #[.slice A W.length cap, .int .i64 z] w fun e w' => e = .returned (.bool true) ∧ Below w.heap.size w w' := by
  by_cases h1 : z < 0
  · exact splits_out A cap W z w hlen hW (by simp [h1])
  by_cases h2 : (W.length : Int) < z
  · exact splits_out A cap W z w hlen hW (by simp [h1, h2])
  obtain ⟨kk, rfl⟩ : ∃ kk : Nat, z = (kk : Int) := ⟨z.toNat, by omega⟩
  by_cases hc : kk = cap
  · refine splits_in A A cap 0 W kk w hlen hcap hcap2 hW htab (by omega) (fun w' => ?_) (fun b off e h => absurd h (by omega))
    subst hc
    rw [run_slice_l w' 23 A W.length kk Tryd.underlying23 .i64 (kk : Int) (by omega) (by omega)]
    simp [Result.andThen, sliced, go_sem]
  · refine splits_in A (A.map (·.add kk)) cap (cap - kk) W kk w hlen hcap hcap2 hW htab (by omega) (fun w' => ?_) (fun b off e h => by subst e; simp [Addr.add])
    rw [run_slice_l w' 23 A W.length cap Tryd.underlying23 .i64 (kk : Int) (by omega) (by omega)]
    simp [Result.andThen, sliced, go_sem]
    exact fun e => absurd e.symm hc

end Go.Proofs.Qxb6629317aDoor
