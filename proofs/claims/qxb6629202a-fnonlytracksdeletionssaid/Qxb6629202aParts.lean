/-
  DERIVED. Seat b6629202a: the plain part: how a pointer element of the map reads; what a map of one entry hands out. No walk.
-/
import Derived.Test.Qxb6629202aRows
import Derived.Maps.RangeWalk
import Derived.WalkKit
import Derived.WalkSpells
import Derived.WalkLawsBesides
namespace Go.Proofs.Qxb6629202a
open Go.RowKit Go.Maps

/-- A pointer element reads as the number of its block; nil as -1. -/
def ptrElem : Value → Option (DataW Unit × List MemPlace)
  | .pointer none => some (.lit (.int .i64 (-1)), [])
  | .pointer (some ⟨b, 0, none⟩) => some (.lit (.int .i64 (b : Int)), [])
  | _ => none

theorem ptrElem_nil : ptrElem (.pointer none) = some (.lit (.int .i64 (-1)), []) := rfl
theorem ptrElem_mk (b : Nat) : ptrElem (.pointer (some ⟨b, 0, none⟩)) = some (.lit (.int .i64 (b : Int)), []) := rfl

theorem ptrElem_inv {v : Value} {y : DataW Unit × List MemPlace} (h : ptrElem v = some y) : ∃ a, v = .pointer a := by
  unfold ptrElem at h
  split at h <;> first | exact ⟨_, rfl⟩ | cases h

theorem ptrElem_at {a : Option Addr} {c : Nat} {ps : List MemPlace} (h : ptrElem (.pointer a) = some (.lit (.int .i64 (c : Int)), ps)) : a = some ⟨c, 0, none⟩ := by
  unfold ptrElem at h
  split at h
  · rename_i e; injection h with h; injection h with h1 h2; injection h1 with h1; injection h1 with h1 h3; omega
  · rename_i b e; injection h with h; injection h with h1 h2; injection h1 with h1; injection h1 with h1 h3
    injection e with e; rw [e]; have : b = c := by omega
    rw [this]
  · cases h

/-- Of a map of one entry: whatever two keys are there are one. -/
theorem one_key {D : DataW Unit} (h1 : Maps.size D = 1) {k k' : Lit} (h : Maps.has D k = true) (h' : Maps.has D k' = true) : k = k' := by
  cases D <;> try (cases h1; done)
  rename_i es
  match es, h1 with
  | [p], _ =>
    simp [Maps.has] at h h'
    exact (WideAt.sameKey_eq h).symm.trans (WideAt.sameKey_eq h')

theorem size_zero_of {D : DataW Unit} (hd : Maps.Tidy D) (hk : ∀ es, D = .map es → ∀ p ∈ es, WideAt.IsKeyLit p.1) (h : ∀ k, Maps.has D k = false) : Maps.size D = 0 := by
  obtain ⟨es, rfl, _⟩ := hd
  cases es with
  | nil => rfl
  | cons p r =>
    have h0 := h p.1
    have h1 := hk _ rfl p (by simp)
    simp [Maps.has, WideAt.sameKey_self h1] at h0

theorem size_pos_of {D : DataW Unit} {k : Lit} (h : Maps.has D k = true) : 0 < Maps.size D := by
  cases D <;> try (cases h; done)
  rename_i es
  cases es with
  | nil => cases h
  | cons p r => simp [Maps.size]

theorem has_of_size {D : DataW Unit} (hk : ∀ es, D = .map es → ∀ p ∈ es, WideAt.IsKeyLit p.1) (h : 0 < Maps.size D) : ∃ k, Maps.has D k = true := by
  cases D <;> try (cases h; done)
  rename_i es
  cases es with
  | nil => cases h
  | cons p r => exact ⟨p.1, by simp [Maps.has, WideAt.sameKey_self (hk _ rfl p (by simp))]⟩

end Go.Proofs.Qxb6629202a
