/-
  DERIVED. Seat b6629202a: the plain part of 'FnOnlyTracksDeletions': what the map holds while it is filled and while it is emptied. No walk.
-/
import Derived.Test.Qxb6629202aIns
namespace Go.Proofs.Qxb6629202a
open Go.RowKit Go.WideMaps Go.Maps

/-- The key at place j. -/
def keyAt (ss : List ByteArray) (j : Nat) : Lit := .string (ss.getD j ByteArray.empty).data.toList

/-- Place l: the newest first appearance among the first k keys. -/
def Newest (ss : List ByteArray) (k l : Nat) : Prop := l < k ∧ (∀ j, j < l → keyAt ss j ≠ keyAt ss l) ∧ ∀ j, j < k → ∃ i, i ≤ l ∧ keyAt ss i = keyAt ss j

/-- What the map holds when the first k keys have been stored. -/
def Filled (ss : List ByteArray) (k : Nat) (D : DataW Unit) : Prop := ∀ q, Maps.has D q = true ↔ ∃ j, j < k ∧ keyAt ss j = q

/-- Each element points at a block whose first cell holds its key. -/
def Mem (B : Nat) (w : World) (D : DataW Unit) : Prop := ∀ s : ByteArray, Maps.has D (.string s.data.toList) = true → ∃ c : Nat, B < c ∧ c < w.heap.size ∧ D.atKey (.string s.data.toList) (.lit (.int .i64 (-1))) = .lit (.int .i64 (c : Int)) ∧ w.cell? ⟨c, 0, none⟩ = some (.string s)

theorem filled_zero (ss : List ByteArray) : Filled ss 0 (.map []) := fun q => ⟨fun h => (by cases h), fun ⟨j, hj, _⟩ => absurd hj (by omega)⟩

theorem mem_zero (B : Nat) (w : World) : Mem B w (.map []) := fun s h => by cases h

theorem filled_put {ss : List ByteArray} {k : Nat} {D : DataW Unit} (h : Filled ss k D) (him : IsMap D) (d : DataW Unit) : Filled ss (k + 1) (D.put (keyAt ss k) d) := by
  intro q
  by_cases e : q = keyAt ss k
  · subst e
    exact ⟨fun _ => ⟨k, by omega, rfl⟩, fun _ => Maps.has_put_same him (k := keyAt ss k) trivial d⟩
  · rw [Maps.has_put_other e, h q]
    constructor
    · rintro ⟨j, hj, hq⟩; exact ⟨j, by omega, hq⟩
    · rintro ⟨j, hj, hq⟩
      refine ⟨j, ?_, hq⟩
      by_cases e2 : j = k
      · subst e2; exact absurd hq.symm e
      · omega

theorem newest_old {ss : List ByteArray} {k l : Nat} {D : DataW Unit} (h : Newest ss k l) (hf : Filled ss k D) (hh : Maps.has D (keyAt ss k) = true) : Newest ss (k + 1) l := by
  obtain ⟨h1, h2, h3⟩ := h
  refine ⟨by omega, h2, fun j hj => ?_⟩
  by_cases e : j = k
  · subst e
    obtain ⟨i, hi, hq⟩ := (hf _).1 hh
    obtain ⟨i', hi', hq'⟩ := h3 i hi
    exact ⟨i', hi', hq'.trans hq⟩
  · exact h3 j (by omega)

theorem newest_new {ss : List ByteArray} {k : Nat} {D : DataW Unit} (hf : Filled ss k D) (hh : Maps.has D (keyAt ss k) = false) : Newest ss (k + 1) k := by
  refine ⟨by omega, fun j hj e => ?_, fun j hj => ⟨j, by omega, rfl⟩⟩
  have := (hf (keyAt ss k)).2 ⟨j, hj, e⟩
  rw [hh] at this
  cases this

theorem mem_put {B : Nat} {w w1 : World} {D : DataW Unit} {cs : Array Value} {s : ByteArray} (h : Mem B w D) (him : IsMap D) (hB : B < w.heap.size) (hcs : cs[0]? = some (.string s)) (hg : (w.alloc (.cells cs 46)).grownBy w1 (some B)) :
    Mem B w1 (D.put (.string s.data.toList) (.lit (.int .i64 (w.heap.size : Int)))) := by
  have hs1 := hg.size
  simp at hs1
  intro t ht
  by_cases e : Lit.string t.data.toList = .string s.data.toList
  · have e' := str_inj e
    subst e'
    refine ⟨w.heap.size, hB, by omega, Maps.atKey_put_same (k := .string t.data.toList) him trivial _ _, ?_⟩
    rw [World.cell?_of_block (w := w.alloc (.cells cs 46)) (hg.block w.heap.size (by simp) (by simp; omega))]
    simp [hcs]
  · rw [Maps.has_put_other e] at ht
    obtain ⟨c, h1, h2, h3, h4⟩ := h t ht
    refine ⟨c, h1, by omega, by rw [Maps.atKey_put_other e]; exact h3, ?_⟩
    rw [World.cell?_of_block (w := w.alloc (.cells cs 46)) (hg.block c (by simp; omega) (by simp; omega))]
    rw [World.cell?_of_block (w := w) (Below.heap_alloc w _ c h2)]
    exact h4

/-- What the map holds when the first i keys have been struck: c is the block of the newest key's element. -/
def Struck (ss : List ByteArray) (len l c i : Nat) (D : DataW Unit) : Prop :=
  (∀ q, Maps.has D q = true → (∃ j, j < len ∧ keyAt ss j = q) ∧ ∀ j, j < i → keyAt ss j ≠ q) ∧
  (i ≤ l → Maps.has D (keyAt ss l) = true ∧ D.atKey (keyAt ss l) (.lit (.int .i64 (-1))) = .lit (.int .i64 (c : Int)))

theorem struck_zero {ss : List ByteArray} {len l c : Nat} {D : DataW Unit} (hf : Filled ss len D) (hl : l < len) (hc : D.atKey (keyAt ss l) (.lit (.int .i64 (-1))) = .lit (.int .i64 (c : Int))) : Struck ss len l c 0 D :=
  ⟨fun q hq => ⟨(hf q).1 hq, fun j hj => absurd hj (by omega)⟩, fun _ => ⟨(hf _).2 ⟨l, hl, rfl⟩, hc⟩⟩

theorem struck_del {ss : List ByteArray} {len l c i : Nat} {D : DataW Unit} (hn : Newest ss len l) (h : Struck ss len l c i D) : Struck ss len l c (i + 1) (D.del (keyAt ss i)) := by
  refine ⟨fun q hq => ?_, fun hi => ?_⟩
  · have hne : q ≠ keyAt ss i := fun e => by subst e; rw [Maps.has_del_same] at hq; cases hq
    rw [Maps.has_del_other hne] at hq
    obtain ⟨h1, h2⟩ := h.1 q hq
    refine ⟨h1, fun j hj => ?_⟩
    by_cases e : j = i
    · subst e; exact fun e' => hne e'.symm
    · exact h2 j (by omega)
  · have hne : keyAt ss l ≠ keyAt ss i := fun e => hn.2.1 i (by omega) e.symm
    obtain ⟨h1, h2⟩ := h.2 (by omega)
    exact ⟨by rw [Maps.has_del_other hne]; exact h1, by rw [Maps.atKey_del_other hne]; exact h2⟩

theorem struck_none {ss : List ByteArray} {len l c i : Nat} {D : DataW Unit} (hn : Newest ss len l) (h : Struck ss len l c i D) (hh : Maps.has D (keyAt ss i) = false) : Struck ss len l c (i + 1) D := by
  have := struck_del hn h
  rwa [Maps.del_of_not_has hh] at this

/-- One entry is left: it is the newest key's. -/
theorem struck_one {ss : List ByteArray} {len l c i : Nat} {D : DataW Unit} (hn : Newest ss len l) (h : Struck ss len l c i D) (hk : ∀ es, D = .map es → ∀ p ∈ es, WideAt.IsKeyLit p.1) (h1 : Maps.size D = 1) :
    Maps.has D (keyAt ss l) = true ∧ D.atKey (keyAt ss l) (.lit (.int .i64 (-1))) = .lit (.int .i64 (c : Int)) := by
  obtain ⟨q, hq⟩ := has_of_size hk (by omega)
  obtain ⟨⟨j, hj, e⟩, h2⟩ := h.1 q hq
  obtain ⟨j', hj', e'⟩ := hn.2.2 j hj
  refine h.2 ?_
  by_cases hi : j' < i
  · exact absurd (e'.trans e) (h2 j' hi)
  · omega

/-- All keys have been struck: nothing is left. -/
theorem struck_end {ss : List ByteArray} {len l c : Nat} {D : DataW Unit} (h : Struck ss len l c len D) (hd : Maps.Tidy D) (hk : ∀ es, D = .map es → ∀ p ∈ es, WideAt.IsKeyLit p.1) : Maps.size D = 0 := by
  refine size_zero_of hd hk fun q => ?_
  cases hq : Maps.has D q
  · rfl
  · obtain ⟨⟨j, hj, e⟩, h2⟩ := h.1 q hq
    exact absurd e (h2 j hj)

theorem keys_lit {w : World} {b n : Nat} {D : DataW Unit} (h : w.ownsMap Try.prog 9 ptrElem b n D) : ∀ es, D = .map es → ∀ p ∈ es, WideAt.IsKeyLit p.1 := by
  obtain ⟨es, rfl, _, hk⟩ := h.entries law9
  intro es' e
  injection e with e
  subst e
  exact hk

end Go.Proofs.Qxb6629202a
