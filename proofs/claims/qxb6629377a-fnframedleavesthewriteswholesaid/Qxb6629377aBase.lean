/-
  DERIVED. Seat b6629377a: what is read, what is owned, and the builtins' laws at this program.
-/
import Derived.Test.Qxb6629377aRows
import Derived.WalkKit
import Derived.WalkSpells
import Derived.WalkLawsBesides
import Derived.BigQuiet
import Derived.Laws.AppendOwnNone
import Derived.Maps.AppendAt
import Derived.Laws.CopyOwn
import Derived.Lib.AppendStr
import Derived.Deep.RegionWith
namespace Go.Proofs.Qxb6629377a
open Go.RowKit

theorem Try.info5 : (Try.prog.info? 5).map (fun i => (i.zero, i.size, i.bytes)) = some (some (.int .u8 0), 1, 1) := by kernel_rfl
theorem Try.info3 : (Try.prog.info? 3).map (fun i => (i.zero, i.size, i.bytes)) = some (some (.int .i64 0), 1, 8) := by kernel_rfl
theorem Try.info22 : (Try.prog.info? 22).map (fun i => (i.zero, i.size, i.bytes)) = some (some (.slice none 0 0), 1, 24) := by kernel_rfl

/-- The slice value v owns the bytes l, in blocks from B on. -/
def Own (B : Nat) (w : World) (v : Value) (l : List UInt8) : Prop := w.ownsRow B 5 1 v l.length (Lib.byteCells l)

theorem own_of {B n : Nat} {w : World} {v : Value} {l : List UInt8} {xs : List Value} (h : w.ownsRow B 5 1 v n xs) (hn : n = l.length) (hx : xs = Lib.byteCells l) : Own B w v l := by
  subst hn; subst hx; exact h

/-- A []byte whose cells lie below B. -/
def WordAt (B : Nat) (w : World) (A : Option Addr) (C : Nat) (l : List UInt8) : Prop :=
  (A = none → l = [] ∧ C = 0) ∧ ∃ b off, (0 < l.length → A = some ⟨b, off, none⟩ ∧ b < B) ∧ ∀ j, j < l.length → w.cell? ⟨b, off + j, none⟩ = some (.int .u8 ((l.getD j 0).toNat : Int))

/-- A [][]byte whose cells lie below B. -/
def WordsAt (B : Nat) (w : World) (A : Option Addr) (W : List (List UInt8)) : Prop :=
  ∃ b off, (0 < W.length → A = some ⟨b, off, none⟩ ∧ b < B) ∧ ∀ r, r < W.length → ∃ A' C, w.cell? ⟨b, off + r, none⟩ = some (.slice A' (W.getD r []).length C) ∧ WordAt B w A' C (W.getD r [])

/-- A []int whose cells lie below B. -/
def IntsAt (B : Nat) (w : World) (A : Option Addr) (zs : List Int) : Prop :=
  (A = none → zs = []) ∧ ∃ b off, (0 < zs.length → A = some ⟨b, off, none⟩ ∧ b < B) ∧ ∀ j, j < zs.length → w.cell? ⟨b, off + j, none⟩ = some (.int .i64 (zs.getD j 0))

theorem WordAt.on {B B' : Nat} {w w' : World} {A : Option Addr} {C : Nat} {l : List UInt8} (h : WordAt B w A C l) (hb : Below B' w w') (hB : B ≤ B') : WordAt B w' A C l := by
  obtain ⟨h1, b, off, h2, h3⟩ := h
  refine ⟨h1, b, off, h2, fun j hj => ?_⟩
  have := (h2 (by omega)).2
  rw [hb.cell (p := ⟨b, off + j, none⟩) (by show b < B'; omega)]
  exact h3 j hj

theorem IntsAt.on {B B' : Nat} {w w' : World} {A : Option Addr} {l : List Int} (h : IntsAt B w A l) (hb : Below B' w w') (hB : B ≤ B') : IntsAt B w' A l := by
  obtain ⟨h1, b, off, h2, h3⟩ := h
  refine ⟨h1, b, off, h2, fun j hj => ?_⟩
  have := (h2 (by omega)).2
  rw [hb.cell (p := ⟨b, off + j, none⟩) (by show b < B'; omega)]
  exact h3 j hj

theorem WordsAt.on {B B' : Nat} {w w' : World} {A : Option Addr} {W : List (List UInt8)} (h : WordsAt B w A W) (hb : Below B' w w') (hB : B ≤ B') : WordsAt B w' A W := by
  obtain ⟨b, off, h1, h2⟩ := h
  refine ⟨b, off, h1, fun r hr => ?_⟩
  obtain ⟨A', C, h3, h4⟩ := h2 r hr
  have := (h1 (by omega)).2
  refine ⟨A', C, ?_, h4.on hb hB⟩
  rw [hb.cell (p := ⟨b, off + r, none⟩) (by show b < B'; omega)]
  exact h3

theorem WordAt.up {B B' : Nat} {w : World} {A : Option Addr} {C : Nat} {l : List UInt8} (h : WordAt B w A C l) (hB : B ≤ B') : WordAt B' w A C l := by
  obtain ⟨h1, b, off, h2, h3⟩ := h
  exact ⟨h1, b, off, fun h => ⟨(h2 h).1, by have := (h2 h).2; omega⟩, h3⟩

theorem IntsAt.up {B B' : Nat} {w : World} {A : Option Addr} {l : List Int} (h : IntsAt B w A l) (hB : B ≤ B') : IntsAt B' w A l := by
  obtain ⟨h1, b, off, h2, h3⟩ := h
  exact ⟨h1, b, off, fun h => ⟨(h2 h).1, by have := (h2 h).2; omega⟩, h3⟩

theorem WordsAt.up {B B' : Nat} {w : World} {A : Option Addr} {W : List (List UInt8)} (h : WordsAt B w A W) (hB : B ≤ B') : WordsAt B' w A W := by
  obtain ⟨b, off, h1, h2⟩ := h
  refine ⟨b, off, fun h => ⟨(h1 h).1, by have := (h1 h).2; omega⟩, fun r hr => ?_⟩
  obtain ⟨A', C, h3, h4⟩ := h2 r hr
  exact ⟨A', C, h3, h4.up hB⟩

/-- The length of word k, read. -/
theorem WordsAt.word {B : Nat} {w : World} {A : Option Addr} {W : List (List UInt8)} (h : WordsAt B w A W) : ∃ b off, (0 < W.length → A = some ⟨b, off, none⟩ ∧ b < B) ∧ ∀ r, r < W.length → ∃ A' C, w.cell? ⟨b, off + r, none⟩ = some (.slice A' (W.getD r []).length C) := by
  obtain ⟨b, off, h1, h2⟩ := h
  exact ⟨b, off, h1, fun r hr => by obtain ⟨A', C, h3, _⟩ := h2 r hr; exact ⟨A', C, h3⟩⟩

theorem own_keep {B U : Nat} {w w' : World} {v : Value} {l : List UInt8} (h : Own B w v l) (hU : w.heap.size ≤ U) (hb : Below U w w') : Own B w' v l := by
  unfold Own at h ⊢
  refine ⟨h.1, ?_⟩
  rcases h.2 with hn | ⟨g, cap, cur, rfl, hbg, hg, r⟩
  · exact .inl hn
  · have := (h.lt g rfl).2
    exact .inr ⟨g, cap, cur, rfl, hbg, by rw [hb.block g (by omega)]; exact hg, r⟩

/-- What is owned stays owned while another row grows. -/
theorem own_beside {B : Nat} {w w' : World} {v : Value} {l : List UInt8} {o : Option Nat} (h : Own B w v l) (hb : w.grownBy w' o) (ho : ∀ g, o = some g → g < B) : Own B w' v l := by
  unfold Own at h ⊢
  refine ⟨h.1, ?_⟩
  rcases h.2 with hn | ⟨g, cap, cur, rfl, hbg, hg, r⟩
  · exact .inl hn
  · have := (h.lt g rfl).2
    exact .inr ⟨g, cap, cur, rfl, hbg, by rw [hb.block g this (fun e => by have := ho g e.symm; omega)]; exact hg, r⟩

theorem own_down {B B' : Nat} {w : World} {v : Value} {l : List UInt8} (h : Own B w v l) (hB : B' ≤ B) : Own B' w v l := by
  unfold Own at h ⊢
  refine ⟨h.1, ?_⟩
  rcases h.2 with hn | ⟨g, cap, cur, e, hbg, r⟩
  · exact .inl hn
  · exact .inr ⟨g, cap, cur, e, by omega, r⟩

/-- What is owned, as a word. -/
theorem own_word {B : Nat} {w : World} {v : Value} {l : List UInt8} (h : Own B w v l) : ∃ A C, v = .slice A l.length C ∧ l.length ≤ C ∧ C ≤ maxLen ∧ WordAt w.heap.size w A C l := by
  have h' := h
  unfold Own at h'
  rcases h'.2 with ⟨hn, h1⟩ | ⟨g, cap, cur, rfl, hbg, hg, hc, hm, r⟩
  · have hl : l = [] := List.eq_nil_of_length_eq_zero h1
    subst hl
    exact ⟨none, 0, hn, Nat.le_refl _, Nat.zero_le _, fun _ => ⟨rfl, rfl⟩, 0, 0, fun h => absurd h (by simp), fun j hj => absurd hj (by simp)⟩
  · have hl := h'.lt g rfl
    refine ⟨_, _, rfl, hc, hm, fun h => by (cases h), g, 0, fun _ => ⟨rfl, hl.2⟩, fun j hj => ?_⟩
    rw [Nat.zero_add, h'.cellAt j (by omega), Lib.byteCells, List.getElem?_map, List.getElem?_eq_getElem hj, List.getD, List.getElem?_eq_getElem hj]
    rfl

theorem word_src {B : Nat} {w : World} {A : Option Addr} {C : Nat} {l : List UInt8} {ad : Addr} (h : WordAt B w A C l) (hA : A = some ad) : ∀ j u, (Lib.byteCells l)[j]? = some u → w.cell? (ad.add j) = some u := by
  obtain ⟨_, b, off, h2, h3⟩ := h
  intro j u hu
  have hj : j < l.length := by
    have := (List.getElem?_eq_some_iff.1 hu).1
    rwa [Lib.byteCells_length] at this
  obtain ⟨e1, _⟩ := h2 (by omega)
  rw [hA] at e1
  injection e1 with e1
  subst e1
  have hadd : (⟨b, off, none⟩ : Addr).add j = ⟨b, off + j, none⟩ := by unfold Addr.add; split <;> simp_all
  rw [hadd, h3 j hj]
  simp only [Lib.byteCells, List.getElem?_map, List.getElem?_eq_getElem hj, Option.map_some, Option.some.injEq] at hu
  rw [← hu, List.getD, List.getElem?_eq_getElem hj]
  rfl

theorem byte_one (l : List UInt8) : ∀ u ∈ Lib.byteCells l, u.oneCell' = true := by
  intro u hu
  simp only [Lib.byteCells, List.mem_map] at hu
  obtain ⟨y, _, rfl⟩ := hu
  rfl

/-- A slice's capacity. -/
def capOf : Value → Nat
  | .slice _ _ c => c
  | _ => 0

theorem owns_cap {B n : Nat} {w : World} {v : Value} {e : TypeId} {size : Nat} {xs : List Value} (h : w.ownsRow B e size v n xs) : n ≤ capOf v := by
  rcases h.2 with ⟨rfl, rfl⟩ | ⟨g, cap, cur, rfl, _, _, hc, _⟩
  · exact Nat.zero_le _
  · exact hc

/-- 'append(dst, word...)' onto a slice that the call owns, whatever the word. -/
theorem wpList_append_word {w : World} {ops : Array Oper} {rest : List Oper} {o : Oper} {a : Act} {Q : Exit → Act → World → Prop} (hgd : o.guard = none) (s x : Operand)
    (ho : o.op = .call { callee := .builtin .append, args := #[s, x], argTypes := #[22, 22] }) (B B' : Nat) (v : Value) (l0 l : List UInt8) (hs : a.eval s = v) (hown : Own B w v l0) (A : Option Addr) (n C : Nat) (hn : n = l.length) (hx : a.eval x = .slice A n C)
    (hw : WordAt B' w A C l) (hlim : l0.length + l.length ≤ 140737488355328) (hBw : B ≤ w.heap.size)
    (h : ∀ v' w', Own B w' v' (l0 ++ l) → w.grownBy w' v.ownBlock → (v'.ownBlock = v.ownBlock ∨ v'.ownBlock = some w.heap.size) → Below B w w' → capOf v ≤ capOf v' → wpList Try.prog ops Q rest (a.put o.dst v') w') : wpList Try.prog ops Q (o :: rest) a w := by
  subst hn
  obtain ⟨i0, hi0, hz0, hz1, hz2⟩ := info_parts Try.info5
  have hw' := hw
  obtain ⟨h1, b, off, h2, h3⟩ := hw'
  unfold Own at hown
  cases A with
  | none =>
    obtain ⟨rfl, rfl⟩ := h1 rfl
    refine wpList_append_own_none hgd s x 22 ho B 5 i0 1 Try.underlying22 hi0 v _ _ hs hown hx ?_
    refine h v w ?_ (World.grownBy.refl _ _) (.inl rfl) (Below.refl _ _) (Nat.le_refl _)
    rw [List.append_nil]
    exact hown
  | some ad =>
    by_cases hfit : l0.length + l.length ≤ capOf v ∧ v ≠ .slice none 0 0
    · rcases hown.2 with ⟨hnil, _⟩ | ⟨g, cap, cur, rfl, hbg, hg, r⟩
      · exact absurd hnil hfit.2
      · refine wpList_append_fits w hgd s x 22 ho B 5 i0 1 Try.underlying22 hi0 hz1 g l0.length cap (Lib.byteCells l0) hs hown ad l.length C (Lib.byteCells l) hx (by rw [Lib.byteCells_length, Nat.mul_one]) (word_src hw rfl) (byte_one l) hfit.1 ?_
        intro w' hown' hgrow
        exact h _ w' (own_of hown' (by rw [List.length_append]) (by rw [Lib.byteCells_append])) hgrow (.inl rfl) ((Below.refl B w).grown hgrow hBw (fun k hk => (hown.lt k hk).1)) (Nat.le_refl _)
    · refine wpList_append_own_at w hgd s x 22 ho B 5 i0 (.int .u8 0) 1 1 Try.underlying22 hi0 hz0 hz1 hz2 rfl (by decide) v _ _ hs hown ad l.length C (Lib.byteCells l) hx (by rw [Lib.byteCells_length, Nat.mul_one]) (word_src hw rfl) (byte_one l) (by unfold maxLen; omega) (by omega) hBw ?_
      intro v' w' hown' hgrow _ hloc
      refine h v' w' (own_of hown' (by rw [List.length_append]) (by rw [Lib.byteCells_append])) hgrow hloc ?_ ?_
      · exact (Below.refl B w).grown hgrow hBw (fun k hk => (hown.lt k hk).1)
      · have hc' := owns_cap hown'
        by_cases hnil : v = .slice none 0 0
        · rw [hnil]; exact Nat.zero_le _
        · have : ¬ l0.length + l.length ≤ capOf v := fun e => hfit ⟨e, hnil⟩
          omega

/-- 'copy' of a word to a place in a row that is known whole; every other block stays. -/
theorem wpList_copy_at {w : World} {ops : Array Oper} {rest : List Oper} {o : Oper} {a : Act} {Q : Exit → Act → World → Prop} (hgd : o.guard = none) (d s : Operand) (dT : TypeId)
    (ho : o.op = .call { callee := .builtin .copy, args := #[d, s], argTypes := #[dT, dT] }) (elem : TypeId) (hu : Try.prog.underlying dT = some (.slice elem)) (hsz : (Try.prog.info? elem).map (·.size) = some 1)
    (dp sp : Option Addr) (dLen dCap sLen sCap : Nat) (hd : a.eval d = .slice dp dLen dCap) (hs : a.eval s = .slice sp sLen sCap)
    (g off : Nat) (cur : Array Value) (t : TypeId) (hg : w.heap[g]? = some (.cells cur t (0, 0))) (cs : List Value) (hn : cs.length = Nat.min sLen dLen)
    (hpos : 0 < cs.length → dp = some ⟨g, off, none⟩ ∧ ∃ ad, sp = some ad ∧ ∀ j v, cs[j]? = some v → w.cell? (ad.add j) = some v)
    (hfit : off + cs.length ≤ cur.size) (h1 : ∀ v ∈ cs, v.oneCell' = true)
    (h : ∀ w', Hid (w'.heap[g]? = some (.cells (splice cur.toList off cs).toArray t (0, 0))) → w.grownBy w' (some g) → wpList Try.prog ops Q rest (a.put o.dst (goInt cs.length)) w') :
    wpList Try.prog ops Q (o :: rest) a w := by
  by_cases h0 : cs.length = 0
  · obtain rfl : cs = [] := List.eq_nil_of_length_eq_zero h0
    refine wpList_copy_nothing hgd d s dT dT ho elem hu hsz dp sp dLen dCap sLen sCap hd hs (by simpa using hn.symm) ?_
    exact h w (show _ = _ by simpa [splice] using hg) (World.grownBy.refl _ _)
  · obtain ⟨rfl, ad, rfl, hsrc⟩ := hpos (by omega)
    refine wpList_copy_own hgd d s dT dT ho elem hu hsz g off dLen dCap ad sLen sCap hd hs cur t hg cs hn hsrc hfit h1 ?_
    exact h _ (show _ = _ by simpa [splice] using setRow_heap w g _ _ t _ hg) ⟨rfl, rfl, rfl, by simp [World.setRow], fun k _ hk => setRow_other w g k _ (by simpa using hk)⟩

/-- 'make([]T, n, c)': n zero elements, c cells behind them and all. -/
theorem wpList_make_room (w : World) {ops : Array Oper} {rest : List Oper} {o : Oper} {a : Act} {Q : Exit → Act → World → Prop}
    (hg : o.guard = none) (l c : Operand) (t : TypeId) (hop : o.op = Op.makeSlice t l c)
    (e : TypeId) (i : TypeInfo) (z : Value) (size : Nat) (h1 : Try.prog.underlying t = some (.slice e)) (h2 : Try.prog.info? e = some i) (h3 : i.zero = some z) (h4 : i.size = size)
    (kl kc : IntKind) (L C : Int) (n m : Nat) (hl : a.eval l = .int kl L) (hc : a.eval c = .int kc C) (hL : L = (n : Int)) (hC : C = (m : Int)) (hnm : n ≤ m) (b2 : i.bytes * m ≤ 281474976710656) (b3 : m ≤ maxLen)
    (hK : wpList Try.prog ops Q rest (a.put o.dst (.slice (some ⟨w.heap.size, 0, none⟩) n m)) (w.alloc (.cells (madeCells z.cells (m * size)) e (0, 0)))) :
    wpList Try.prog ops Q (o :: rest) a w := by
  subst h4
  refine wpList_plain hg fun K hK' => ?_
  have h63' : (m : Int) ≤ 9223372036854775807 := by
    have h := b3
    simp [maxLen] at h
    omega
  have hb' : (i.bytes : Int) * (m : Int) ≤ 281474976710656 := by
    have h : ((i.bytes * m : Nat) : Int) ≤ 281474976710656 := by omega
    rwa [Int.natCast_mul] at h
  have hr := run_make (P := Try.prog) w t e i z h1 h2 h3 kl kc n m (by omega) (by omega) hb' h63'
  simp only [Int.toNat_natCast] at hr
  subst hL
  subst hC
  unfold Oper.wp
  simp [execOp, hop, hl, hc, hr, Result.andThen]
  exact hK' _ _ hK

end Go.Proofs.Qxb6629377a
