/-
  DERIVED. Seat b6629202a: the walks of the two 'zzBytes' functions: each answers some bool and leaves the world as it is.
-/
import Derived.Test.Qxb6629202aParts
namespace Go.Proofs.Qxb6629202a
open Go.RowKit Go.Maps

/-- The call answers some bool. -/
def SomeBool (e : Ending) : Prop := ∃ r, e = .returned (.bool r)

theorem bytes5_none (a : Option Addr) (cap : Nat) (w : World) : Calls Try.prog 5 #[.slice a 0 cap] w fun e w' => e = .returned (.bool true) ∧ w = w' := by
  go_enter Try.func5, Try.ntmps5
  go_wp2
  refine wp_loop_rounds 1 ?_
  rw [rounds_succ]
  go_wp2
  go_ret
  exact ⟨rfl, rfl⟩

theorem bytes7_none (a : Option Addr) (cap : Nat) (w : World) : Calls Try.prog 7 #[.slice a 0 cap] w fun e w' => e = .returned (.bool true) ∧ w = w' := by
  go_enter Try.func7, Try.ntmps7
  go_wp2
  refine wp_loop_rounds 1 ?_
  rw [rounds_succ]
  go_wp2
  go_ret
  exact ⟨rfl, rfl⟩

set_option maxHeartbeats 400000 in
theorem bytes5_any (b off len cap : Nat) (ss : List ByteArray) (w : World) (hreach : len * 16 ≤ 140737488351232) (hz : len ≤ ss.length)
    (hc : ∀ j, j < ss.length → w.cell? ⟨b, off + j, none⟩ = some (.string (ss.getD j ByteArray.empty))) :
    Calls Try.prog 5 #[.slice (some ⟨b, off, none⟩) len cap] w fun e w' => w = w' ∧ SomeBool e := by
  go_enter Try.func5, Try.ntmps5
  go_wp2
  · go_ret
    exact ⟨rfl, ⟨_, rfl⟩⟩
  go_loop [3, 4] (fun z i => ∃ (k : Nat) (n : Int), k ≤ len ∧ 0 ≤ n ∧ n ≤ 1048576 ∧ i = .int .i64 k ∧ z = .int .i64 n) (fun _ i => len - (intOf i).toNat)
  case atStart => exact ⟨0, (len : Int), Nat.zero_le _, by omega, by omega, rfl, rfl⟩
  case round =>
    obtain ⟨k, n, hk, hn0, hn1, rfl, rfl⟩ := hrel
    by_cases hlt : k < len
    · obtain ⟨s, hs⟩ : ∃ s, s = ss.getD k ByteArray.empty := ⟨_, rfl⟩
      have hcx : w.cell? ⟨b, off + k, none⟩ = some (.string s) := by rw [hs]; exact hc k (by omega)
      clear hs hc
      go_wp2
      · go_ret
        exact ⟨rfl, ⟨_, rfl⟩⟩
      · go_ret
        exact ⟨rfl, ⟨_, rfl⟩⟩
      · go_round
        case rel => exact ⟨k + 1, n + s.size, by omega, by omega, by omega, by go_num, by go_num⟩
        case measure => simp [intOf]; omega
    · go_wp2
      go_ret
      exact ⟨rfl, ⟨_, rfl⟩⟩

set_option maxHeartbeats 400000 in
theorem bytes7_any (b off len cap : Nat) (ss : List ByteArray) (w : World) (hreach : len * 16 ≤ 140737488351232) (hz : len ≤ ss.length)
    (hc : ∀ j, j < ss.length → w.cell? ⟨b, off + j, none⟩ = some (.string (ss.getD j ByteArray.empty))) :
    Calls Try.prog 7 #[.slice (some ⟨b, off, none⟩) len cap] w fun e w' => w = w' ∧ SomeBool e := by
  go_enter Try.func7, Try.ntmps7
  go_wp2
  · go_ret
    exact ⟨rfl, ⟨_, rfl⟩⟩
  go_loop [3, 4] (fun z i => ∃ (k : Nat) (n : Int), k ≤ len ∧ 0 ≤ n ∧ n ≤ 1048576 ∧ i = .int .i64 k ∧ z = .int .i64 n) (fun _ i => len - (intOf i).toNat)
  case atStart => exact ⟨0, (len : Int), Nat.zero_le _, by omega, by omega, rfl, rfl⟩
  case round =>
    obtain ⟨k, n, hk, hn0, hn1, rfl, rfl⟩ := hrel
    by_cases hlt : k < len
    · obtain ⟨s, hs⟩ : ∃ s, s = ss.getD k ByteArray.empty := ⟨_, rfl⟩
      have hcx : w.cell? ⟨b, off + k, none⟩ = some (.string s) := by rw [hs]; exact hc k (by omega)
      clear hs hc
      go_wp2
      · go_ret
        exact ⟨rfl, ⟨_, rfl⟩⟩
      · go_ret
        exact ⟨rfl, ⟨_, rfl⟩⟩
      · go_round
        case rel => exact ⟨k + 1, n + s.size, by omega, by omega, by omega, by go_num, by go_num⟩
        case measure => simp [intOf]; omega
    · go_wp2
      go_ret
      exact ⟨rfl, ⟨_, rfl⟩⟩

end Go.Proofs.Qxb6629202a
