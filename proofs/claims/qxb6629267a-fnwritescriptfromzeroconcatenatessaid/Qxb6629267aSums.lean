/-
  DERIVED. Seat b6629267a: plain sums and concatenations over a list of strings; the walk of zzBytes_FnWriteScriptFromZeroConcatenates.
-/
import Derived.Test.Qxb6629267aSpl
namespace Go.Proofs.Qxb6629267a
open Go.RowKit

/-- How many bytes the first k strings hold. -/
def sumTo (ss : List ByteArray) : Nat → Nat
  | 0 => 0
  | k + 1 => sumTo ss k + (ss.getD k ByteArray.empty).size
/-- The first k strings, one behind the other. -/
def catTo (ss : List ByteArray) : Nat → List UInt8
  | 0 => []
  | k + 1 => catTo ss k ++ (ss.getD k ByteArray.empty).data.toList

theorem toList_len (s : ByteArray) : s.data.toList.length = s.size := by rw [Array.length_toList]; rfl

theorem catTo_len (ss : List ByteArray) : ∀ k, (catTo ss k).length = sumTo ss k
  | 0 => rfl
  | k + 1 => by rw [catTo, sumTo, List.length_append, catTo_len ss k, toList_len]

theorem sumTo_mono (ss : List ByteArray) {k n : Nat} (h : k ≤ n) : sumTo ss k ≤ sumTo ss n := by
  induction n with
  | zero => have : k = 0 := by omega
            subst this; exact Nat.le_refl _
  | succ n ih =>
    by_cases e : k = n + 1
    · subst e; exact Nat.le_refl _
    · exact Nat.le_trans (ih (by omega)) (Nat.le_add_right _ _)

/-- The call answers a bool; where it is true the strings and their number sum to at most 1<<20. -/
def BytesOk (ss : List ByteArray) (len : Nat) (e : Ending) : Prop := ∃ r, e = .returned (.bool r) ∧ (r = true → len + sumTo ss len ≤ 1048576)

theorem bytes10_none (a : Option Addr) (cap : Nat) (w : World) : Calls Try.prog 10 #[.slice a 0 cap] w fun e w' => e = .returned (.bool true) ∧ w = w' := by
  go_enter Try.func10, Try.ntmps10
  go_wp2
  refine wp_loop_rounds 1 ?_
  rw [rounds_succ]
  go_wp2
  go_ret
  exact ⟨rfl, rfl⟩

set_option maxHeartbeats 400000 in
theorem bytes10_any (b off len cap : Nat) (ss : List ByteArray) (w : World) (hreach : len * 16 ≤ 140737488351232) (hz : len ≤ ss.length)
    (hc : ∀ j, j < ss.length → w.cell? ⟨b, off + j, none⟩ = some (.string (ss.getD j ByteArray.empty))) :
    Calls Try.prog 10 #[.slice (some ⟨b, off, none⟩) len cap] w fun e w' => w = w' ∧ BytesOk ss len e := by
  go_enter Try.func10, Try.ntmps10
  go_wp2
  · go_ret
    exact ⟨rfl, ⟨_, rfl, fun h => by cases h⟩⟩
  go_loop [3, 4] (fun z i => ∃ (k m : Nat), k ≤ len ∧ m ≤ 1048576 ∧ i = .int .i64 k ∧ z = .int .i64 m ∧ m = len + sumTo ss k) (fun _ i => len - (intOf i).toNat)
  case atStart => exact ⟨0, len, Nat.zero_le _, by omega, rfl, rfl, rfl⟩
  case round =>
    obtain ⟨k, m, hk, hm, rfl, rfl, hme⟩ := hrel
    have HM : Hid (m = len + sumTo ss k) := hme
    clear hme
    by_cases hlt : k < len
    · obtain ⟨s, hs⟩ : ∃ s, s = ss.getD k ByteArray.empty := ⟨_, rfl⟩
      have hcx : w.cell? ⟨b, off + k, none⟩ = some (.string s) := by rw [hs]; exact hc k (by omega)
      have HS : Hid (sumTo ss (k + 1) = sumTo ss k + s.size) := by rw [hs]; rfl
      clear hs hc
      go_wp2
      · go_ret
        exact ⟨rfl, ⟨_, rfl, fun h => by cases h⟩⟩
      · go_ret
        exact ⟨rfl, ⟨_, rfl, fun h => by cases h⟩⟩
      · go_round
        case rel => exact ⟨k + 1, m + s.size, by omega, by omega, by go_num, by go_num, by rw [HS.out, HM.out]; omega⟩
        case measure => simp [intOf]; omega
    · obtain rfl : k = len := by omega
      go_wp2
      go_ret
      exact ⟨rfl, ⟨_, rfl, fun _ => by have := HM.out; omega⟩⟩

end Go.Proofs.Qxb6629267a
