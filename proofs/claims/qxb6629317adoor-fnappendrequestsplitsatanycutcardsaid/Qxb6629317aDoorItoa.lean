/-
  DERIVED. Seat b6629317aD: the shelf's contract on strconv.AppendInt at base 10, laid at this dump in plain words (after the kit's lay-shelf, lay-plain), and the contract of resp.appendNumber.
-/
import Derived.Test.Qxb6629317aDoorRows
import Derived.Shelf.Strconv.AppendIntPublic10
import Derived.Lib.AppendIntMem
import Derived.Lib.ItoaLen
import Derived.Lib.AppendStr
import Derived.Lib.UnsafeStr
import Derived.WalkKit
import Derived.WalkSpells
import Derived.WalkLawsBesides
namespace Go.Proofs
open Go.Shelf
def Tryd.laysM176_ren : Go.Shelf.Ren := ⟨fun | 176 => 16 | 249 => 17 | 288 => 18 | 283 => 19 | 284 => 20 | 285 => 21 | 286 => 22 | 129 => 24 | 317 => 23 | 318 => 25 | 319 => 26 | 320 => 27 | 337 => 28 | 338 => 29 | n => n, fun | 37 => 22 | 2 => 2 | 3 => 3 | 53 => 37 | 4 => 4 | 9 => 9 | 171 => 36 | 0 => 0 | 173 => 42 | 212 => 46 | 51 => 47 | 5 => 5 | 20 => 20 | 213 => 48 | 46 => 50 | 232 => 53 | 233 => 54 | n => n, fun | 17 => 0 | 18 => 1 | 19 => 2 | n => n⟩
theorem Tryd.laysM176 : Go.Proofs.LaysM.n176 Tryd.prog Tryd.laysM176_ren := {
  mixed := by kernel_rfl
  f129 := Tryd.func24.trans (congrArg some (by kernel_rfl))
  f176 := Tryd.func16.trans (congrArg some (by kernel_rfl))
  f249 := Tryd.func17.trans (congrArg some (by kernel_rfl))
  f283 := Tryd.func19.trans (congrArg some (by kernel_rfl))
  f284 := Tryd.func20.trans (congrArg some (by kernel_rfl))
  f285 := Tryd.func21.trans (congrArg some (by kernel_rfl))
  f286 := Tryd.func22.trans (congrArg some (by kernel_rfl))
  f288 := Tryd.func18.trans (congrArg some (by kernel_rfl))
  f317 := Tryd.func23.trans (congrArg some (by kernel_rfl))
  f318 := Tryd.func25.trans (congrArg some (by kernel_rfl))
  f319 := Tryd.func26.trans (congrArg some (by kernel_rfl))
  f320 := Tryd.func27.trans (congrArg some (by kernel_rfl))
  f337 := Tryd.func28.trans (congrArg some (by kernel_rfl))
  f338 := Tryd.func29.trans (congrArg some (by kernel_rfl))
  t0 := Tryd.underlying0
  a0 := Tryd.isAgg0
  z0 := Tryd.sizeOf0
  v0 := Tryd.zeroValue0
  t2 := Tryd.underlying2
  a2 := Tryd.isAgg2
  z2 := Tryd.sizeOf2
  v2 := Tryd.zeroValue2
  t3 := Tryd.underlying3
  a3 := Tryd.isAgg3
  z3 := Tryd.sizeOf3
  v3 := Tryd.zeroValue3
  t4 := Tryd.underlying4
  a4 := Tryd.isAgg4
  z4 := Tryd.sizeOf4
  v4 := Tryd.zeroValue4
  t5 := Tryd.underlying5
  a5 := Tryd.isAgg5
  z5 := Tryd.sizeOf5
  v5 := Tryd.zeroValue5
  t9 := Tryd.underlying9
  a9 := Tryd.isAgg9
  z9 := Tryd.sizeOf9
  v9 := Tryd.zeroValue9
  t20 := Tryd.underlying20
  a20 := Tryd.isAgg20
  z20 := Tryd.sizeOf20
  v20 := Tryd.zeroValue20
  t37 := Tryd.underlying22
  a37 := Tryd.isAgg22
  z37 := Tryd.sizeOf22
  v37 := Tryd.zeroValue22
  t46 := Tryd.underlying50
  a46 := Tryd.isAgg50
  z46 := Tryd.sizeOf50
  v46 := Tryd.zeroValue50
  t51 := Tryd.underlying47
  a51 := Tryd.isAgg47
  z51 := Tryd.sizeOf47
  v51 := Tryd.zeroValue47
  t53 := Tryd.underlying37
  a53 := Tryd.isAgg37
  z53 := Tryd.sizeOf37
  v53 := Tryd.zeroValue37
  t171 := Tryd.underlying36
  a171 := Tryd.isAgg36
  z171 := Tryd.sizeOf36
  v171 := Tryd.zeroValue36
  t173 := Tryd.underlying42
  a173 := Tryd.isAgg42
  z173 := Tryd.sizeOf42
  v173 := Tryd.zeroValue42
  t212 := Tryd.underlying46
  a212 := Tryd.isAgg46
  z212 := Tryd.sizeOf46
  v212 := Tryd.zeroValue46
  t213 := Tryd.underlying48
  a213 := Tryd.isAgg48
  z213 := Tryd.sizeOf48
  t232 := Tryd.underlying53
  a232 := Tryd.isAgg53
  z232 := Tryd.sizeOf53
  v232 := Tryd.zeroValue53
  t233 := Tryd.underlying54
  a233 := Tryd.isAgg54
  z233 := Tryd.sizeOf54
  v233 := Tryd.zeroValue54
  g17 := by kernel_rfl
  g18 := by kernel_rfl
  g19 := by kernel_rfl
  i0 := by kernel_rfl
  i2 := by kernel_rfl
  i3 := by kernel_rfl
  i4 := by kernel_rfl
  i5 := by kernel_rfl
  i9 := by kernel_rfl
  i20 := by kernel_rfl
  i37 := by kernel_rfl
  i46 := by kernel_rfl
  i51 := by kernel_rfl
  i53 := by kernel_rfl
  i171 := by kernel_rfl
  i173 := by kernel_rfl
  i212 := by kernel_rfl
  i232 := by kernel_rfl
  i233 := by kernel_rfl
  m17 := by kernel_rfl
  m18 := by kernel_rfl
  m19 := by kernel_rfl }
end Go.Proofs

namespace Go.Proofs.Qxb6629317aDoor
open Go.RowKit

/-- The table that AppendInt reads: named by the row's own cell. -/
def tabName : String := Rows.fnAppendRequestKeepsDstAndDecodesRow.named.headD ""

/-- The slice value v owns the bytes l, in blocks from B on. -/
def Own (B : Nat) (w : World) (v : Value) (l : List UInt8) : Prop := w.ownsRow B 5 1 v l.length (Lib.byteCells l)

/-- The table reads as laid, whatever is done from B on. -/
def Tab (B : Nat) (w : World) : Prop := Lib.TabBelow Tryd.prog B w tabName .u64 Lib.pow10Tab

theorem Tab.on {B : Nat} {w w1 : World} (h : Tab B w) (hb : Below B w w1) : Tab B w1 := Lib.TabBelow.on h hb
theorem Tab.up {B B' : Nat} {w : World} (h : Tab B w) (hB : B ≤ B') : Tab B' w := fun w' hb => h w' (hb.mono hB)

theorem appendInt_any (B : Nat) (i : Nat) (hi : i ≤ 1048576) (sv : Value) (l : List UInt8) (w : World) (hown : Own B w sv l) (hBw : B ≤ w.heap.size) (hlim : l.length + 21 ≤ 140737488355328) (htab : Tab B w) :
    Calls Tryd.prog 16 #[sv, .int .i64 i, .int .i64 10] w fun e w' => ∃ v', e = .returned v' ∧ Own B w' v' (l ++ Lib.decDigits i) ∧ Below B w w' := by
  refine (Any.strconv_AppendInt_10 Tryd.laysM176 B l.length (i : Int) (by omega) (by omega) sv (Lib.byteCells l) w hown hBw hlim htab).mono ?_
  rintro e w' ⟨v', he, h1, h2, _⟩
  refine ⟨v', he, ?_, h2⟩
  rw [Lib.itoa_nonneg] at h1
  unfold Own
  rw [Lib.byteCells_append, List.length_append]
  exact h1

theorem Tryd.info5 : (Tryd.prog.info? 5).map (fun i => (i.zero, i.size, i.bytes)) = some (some (.int .u8 0), 1, 1) := by kernel_rfl

/-- A number line: its type byte, the digits, CRLF. -/
def num (k : UInt8) (n : Nat) : List UInt8 := k :: (Lib.decDigits n ++ [13, 10])

theorem digits_le (n : Nat) (h : n ≤ 1048576) : (Lib.decDigits n).length ≤ 21 := by
  have := Lib.itoa_length_le (n : Int) (by omega) (by omega)
  rw [Lib.itoa_nonneg] at this
  omega

theorem one_cell (x : Int) : ∀ u ∈ [Value.int .u8 x], u.oneCell' = true := by
  intro u hu
  simp only [List.mem_singleton] at hu
  subst hu
  rfl

theorem own_snoc {B : Nat} {w : World} {v : Value} {l : List UInt8} {k : UInt8} (h : w.ownsRow B 5 1 v (l.length + 1) (Lib.byteCells l ++ [.int .u8 (k.toNat : Int)])) : Own B w v (l ++ [k]) := by
  unfold Own
  rw [Lib.byteCells_append, List.length_append]
  exact h

theorem own_of {B n : Nat} {w : World} {v : Value} {l : List UInt8} {xs : List Value} (h : w.ownsRow B 5 1 v n xs) (hn : n = l.length) (hx : xs = Lib.byteCells l) : Own B w v l := by
  subst hn; subst hx; exact h

theorem crlf_size : (⟨#[13, 10]⟩ : ByteArray).size = 2 := rfl
theorem crlf_cells : Lib.strCells ⟨#[13, 10]⟩ = Lib.byteCells [13, 10] := rfl

set_option maxHeartbeats 1000000 in
/-- 'appendNumber', onto a slice that the call owns. -/
theorem number_any (B : Nat) (k : UInt8) (i : Nat) (hi : i ≤ 1048576) (sv : Value) (l : List UInt8) (w : World) (hown : Own B w sv l) (hBw : B ≤ w.heap.size) (hlim : l.length + 30 ≤ 140737488355328) (htab : Tab B w) :
    Calls Tryd.prog 13 #[sv, .int .u8 (k.toNat : Int), .int .i64 i] w fun e w' => ∃ v', e = .returned v' ∧ Own B w' v' (l ++ num k i) ∧ Below B w w' := by
  obtain ⟨i0, hi0, hz0, hz1, hz2⟩ := info_parts Tryd.info5
  have hdl := digits_le i hi
  unfold Own at hown
  go_enter Tryd.func13, Tryd.ntmps13
  go_wp2_with (first
    | (at_builtin; refine wpList_append_own _ rfl _ _ 22 rfl B 5 i0 (.int .u8 0) 1 1 Tryd.underlying22 hi0 hz0 hz1 hz2 rfl (by decide) _ _ _ rfl (hown.alloc _) ⟨w.heap.size, 0, none⟩ 1 1 [.int .u8 (k.toNat : Int)] rfl rfl (cell_one_new _ _ _) (one_cell _) (by unfold maxLen; omega) (by omega) (by simp; omega) ?_; intro v1 w1 hown1 hgrow1 hnil1))
  have hb1 : Below B w w1 := ((Below.refl B w).alloc hBw _).grown hgrow1 (by simp; omega) (fun x hx => (hown.lt x hx).1)
  have hsz1 := hb1.size
  refine (appendInt_any B i hi v1 (l ++ [k]) w1 (own_snoc hown1) (by omega) (by simp; omega) (htab.on hb1)).mono ?_
  rintro e w2 ⟨v2, rfl, hown2, hb2⟩
  have hsz2 := hb2.size
  clear hown1 hnil1 hgrow1
  unfold Own at hown2
  go_wp2_with (first
    | (at_builtin; refine Lib.wpList_append_own_string _ rfl _ _ 22 9 rfl B 5 i0 Tryd.underlying22 Tryd.underlying9 hi0 hz0 hz1 hz2 _ _ _ rfl hown2 ⟨#[13, 10]⟩ rfl ?c3 ?c4 ?c5 ?_))
  case c3 => rw [crlf_size]; simp; unfold maxLen; omega
  case c4 => rw [crlf_size]; simp; omega
  case c5 => omega
  intro v3 w3 hown3 hgrow3 _
  go_wp2
  go_ret
  refine ⟨_, rfl, ?_, ?_⟩
  · refine own_of hown3 (by simp [num]; omega) ?_
    rw [crlf_cells, ← Lib.byteCells_append, num]
    simp
  · exact (hb1.trans hb2).grown hgrow3 (by omega) (fun x hx => (hown2.lt x hx).1)

end Go.Proofs.Qxb6629317aDoor
