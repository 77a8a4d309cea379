/-
  DERIVED. Seat b6629377a: from the reading of the arguments to what the walks ask.
-/
import Derived.Test.Qxb6629377aBase
import Derived.ProofKit
import Derived.SizedLaws
import Derived.Deep.Matrix
import Derived.OpenShut
namespace Go.Proofs.Qxb6629377a
open Go.ChangeShapes Go.WideShapes Go.ChangeAt Go.RowKit

/-- Numbers of a byte's kind as bytes. -/
def bytesOf (zs : List Int) : List UInt8 := zs.map fun z => UInt8.ofNat z.toNat

theorem byte_back {n : Int} (h : (Lit.int .u8 n).wf = true) : ((UInt8.ofNat n.toNat).toNat : Int) = n := by
  have h1 : IntKind.u8.min = 0 := rfl
  have h2 : IntKind.u8.max = 255 := rfl
  simp only [Lit.wf, Bool.and_eq_true, decide_eq_true_eq] at h
  rw [UInt8.toNat_ofNat']
  omega

theorem bytesOf_len (zs : List Int) : (bytesOf zs).length = zs.length := by simp [bytesOf]

theorem bytesOf_at {zs : List Int} {len j : Nat} (hj : j < len) (hl : len ≤ zs.length) (hw : ∀ n ∈ zs, (Lit.int .u8 n).wf = true) : (((bytesOf (zs.take len)).getD j 0).toNat : Int) = zs.getD j 0 := by
  have hjz : j < zs.length := by omega
  rw [List.getD, bytesOf, List.getElem?_map, List.getElem?_take_of_lt hj, List.getElem?_eq_getElem hjz, List.getD, List.getElem?_eq_getElem hjz]
  exact byte_back (hw _ (List.getElem_mem hjz))

theorem wordAt_of {W : World} {a : Addr} {len cap : Nat} {zs : List Int} (hl : len ≤ zs.length) (hcell : ∀ j, j < zs.length → W.cell? (a.add j) = some (.int .u8 (zs.getD j 0))) (hw : ∀ n ∈ zs, (Lit.int .u8 n).wf = true)
    (hb : 0 < zs.length → a.block < W.heap.size) : WordAt W.heap.size W (some a) cap (bytesOf (zs.take len)) := by
  have hbl : (bytesOf (zs.take len)).length = len := by rw [bytesOf_len, List.length_take]; omega
  refine ⟨fun h => by (cases h), a.block, a.off, fun h => ?_, fun j hj => ?_⟩
  · rw [hbl] at h
    obtain ⟨b, off, spot⟩ := a
    have hspot : spot = none := by simpa [Addr.add] using World.cell?_spot (hcell 0 (by omega))
    subst hspot
    exact ⟨rfl, hb (by omega)⟩
  · rw [hbl] at hj
    obtain ⟨b, off, spot⟩ := a
    have hspot : spot = none := by simpa [Addr.add] using World.cell?_spot (hcell 0 (by omega))
    subst hspot
    rw [bytesOf_at hj hl hw]
    have := hcell j (by omega)
    rwa [add_plain] at this

theorem wordAt_nil {W : World} {B : Nat} : WordAt B W none 0 [] := ⟨fun _ => ⟨rfl, rfl⟩, 0, 0, fun h => absurd h (by simp), fun j hj => absurd hj (by simp)⟩

/-- The words of a slice of slices. -/
def wordsOf (len : Nat) (L : Nat → Nat) (Z : Nat → List Int) : List (List UInt8) := (List.range len).map fun r => bytesOf ((Z r).take (L r))

theorem wordsOf_len (len : Nat) (L : Nat → Nat) (Z : Nat → List Int) : (wordsOf len L Z).length = len := by simp [wordsOf]

theorem wordsOf_at {len r : Nat} (L : Nat → Nat) (Z : Nat → List Int) (h : r < len) : (wordsOf len L Z).getD r [] = bytesOf ((Z r).take (L r)) := by
  rw [List.getD, wordsOf, List.getElem?_map, List.getElem?_range h]
  rfl

theorem wordsAt_of {W : World} {a : Addr} {len cap : Nat} {A : Nat → Option Addr} {L C : Nat → Nat} {Z : Nat → List Int} (hlc : len ≤ cap) (hb : 0 < cap → a.block < W.heap.size)
    (hrow : ∀ r, r < cap → W.cell? (a.add r) = some (.slice (A r) (L r) (C r)) ∧ L r ≤ C r ∧ C r ≤ maxLen ∧ (Z r).length = C r ∧ (∀ n ∈ Z r, (Lit.int .u8 n).wf = true) ∧ (A r = none → C r = 0) ∧
        ∀ a', A r = some a' → 0 ≤ a'.block ∧ ∀ c, c < C r → W.cell? (a'.add c) = some (.int .u8 ((Z r).getD c 0)))
    (hbr : ∀ r, r < cap → ∀ a', A r = some a' → 0 < (Z r).length → a'.block < W.heap.size) : WordsAt W.heap.size W (some a) (wordsOf len L Z) := by
  have hspot : 0 < len → a.spot = none := fun h => by simpa [Addr.add] using World.cell?_spot (hrow 0 (by omega)).1
  refine ⟨a.block, a.off, fun h => ?_, fun r hr => ?_⟩
  · rw [wordsOf_len] at h
    have := hspot h
    obtain ⟨b, off, spot⟩ := a
    subst this
    exact ⟨rfl, hb (by omega)⟩
  · rw [wordsOf_len] at hr
    have hs := hspot (by omega)
    obtain ⟨b, off, spot⟩ := a
    subst hs
    obtain ⟨h1, h2, h3, h4, h5, h6, h7⟩ := hrow r (by omega)
    refine ⟨A r, C r, ?_, ?_⟩
    · rw [wordsOf_at L Z hr, bytesOf_len, List.length_take, Nat.min_eq_left (by omega)]
      rwa [add_plain] at h1
    · rw [wordsOf_at L Z hr]
      cases hA : A r with
      | none =>
        have hC := h6 hA
        have hz : Z r = [] := List.eq_nil_of_length_eq_zero (by omega)
        rw [hz, hC]
        simpa [bytesOf] using wordAt_nil
      | some a' =>
        exact wordAt_of (by omega) (fun j hj => (h7 a' hA).2 j (by omega)) h5 (hbr r (by omega) a' hA)

theorem intsAt_of {W : World} {a : Addr} {len : Nat} {zs : List Int} (hl : len ≤ zs.length) (hcell : ∀ j, j < zs.length → W.cell? (a.add j) = some (.int .i64 (zs.getD j 0)))
    (hb : 0 < zs.length → a.block < W.heap.size) : IntsAt W.heap.size W (some a) (zs.take len) := by
  have hbl : (zs.take len).length = len := by rw [List.length_take]; omega
  refine ⟨fun h => by (cases h), a.block, a.off, fun h => ?_, fun j hj => ?_⟩
  · rw [hbl] at h
    obtain ⟨b, off, spot⟩ := a
    have hspot : spot = none := by simpa [Addr.add] using World.cell?_spot (hcell 0 (by omega))
    subst hspot
    exact ⟨rfl, hb (by omega)⟩
  · rw [hbl] at hj
    obtain ⟨b, off, spot⟩ := a
    have hspot : spot = none := by simpa [Addr.add] using World.cell?_spot (hcell 0 (by omega))
    subst hspot
    rw [List.getD, List.getElem?_take_of_lt hj, ← List.getD]
    have := hcell j (by omega)
    rwa [add_plain] at this

theorem intsAt_nil {W : World} {B : Nat} : IntsAt B W none [] := ⟨fun _ => rfl, 0, 0, fun h => absurd h (by simp), fun j hj => absurd hj (by simp)⟩

theorem Try.own : ownKnob Try.prog.godebug = none := by kernel_rfl
theorem Try.laidOut : laidOutB Try.prog = true := by kernel_rfl
theorem Try.cells5 : Try.prog.cellsOf 5 = 1 := by kernel_rfl
theorem Try.cells3 : Try.prog.cellsOf 3 = 1 := by kernel_rfl
theorem Try.cells22 : Try.prog.cellsOf 22 = 1 := by kernel_rfl
theorem Try.bytes5 : Try.prog.bytesOf 5 = 1 := by kernel_rfl
theorem Try.bytes3 : Try.prog.bytesOf 3 = 8 := by kernel_rfl
theorem Try.bytes22 : Try.prog.bytesOf 22 = 24 := by kernel_rfl

end Go.Proofs.Qxb6629377a
