/-
  DERIVED. Seat b6629202a: the walks of 'Communities.Only' and of the two 'zzBytes' functions.
-/
import Derived.Test.Qxb6629202aParts
import Derived.LaidEqlPtr
namespace Go.Proofs.Qxb6629202a
open Go.RowKit Go.Maps

theorem law9 : Keyed Try.prog 9 := string_keyed Try.underlying9
theorem zero26 (w : World) : (zeroValue 26).run Try.prog w = .ok (.pointer none) w := by kernel_rfl

theorem info46 : ∃ j, Try.prog.info? 46 = some j := Option.isSome_iff_exists.1 (by kernel_rfl)
theorem eql26 (w : World) (a : Addr) : (binOp .eql 26 (.pointer (some a)) (.pointer (some a))).run Try.prog w = .ok (.bool true) w := by
  obtain ⟨j, hj⟩ := info46
  exact run_eql_ptr_same w a Try.underlying26 hj
theorem neq26 (w : World) (a : Addr) : (binOp .neq 26 (.pointer (some a)) (.pointer (some a))).run Try.prog w = .ok (.bool false) w := by
  obtain ⟨j, hj⟩ := info46
  have h : ∀ d : Nat, (Op.equalIn (d + 1) 26 (.pointer (some a)) (.pointer (some a))).run Try.prog w = .ok true w := fun d => by
    simp [Op.equalIn, run_underlying Try.underlying26, sizeOf, typeInfo, hj, run_sameAddr_same]
  simp only [binOp]
  simp [Op.equal, Op.maxDepth, h 9999]

/-- The step of a range over this map. -/
theorem invK (key : Value) (kl : Lit) (h : keyOf Try.prog 9 key = some kl) : ∃ x, key = Value.string x := by
  cases key <;> simp [keyOf, Try.underlying9, mapKey] at h
  exact ⟨_, rfl⟩

theorem only_nil (w : World) : Calls Try.prog 6 #[.map none] w fun e w' => e = .returned (.tuple #[.pointer none, .int .i64 0]) ∧ w = w' := by
  have hl := fun (w : World) => @Maps.len_nil Try.prog 9 w 25 26 Try.underlying25
  go_enter Try.func6, Try.ntmps6
  go_wp2
  go_ret2
  exact ⟨rfl, rfl⟩

/-- Not just one entry: nil, and the count. -/
theorem only_none (b n : Nat) (D : DataW Unit) (z : Int) (w : World) (hown : w.ownsMap Try.prog 9 ptrElem b n D) (hz : (Maps.size D : Int) = z) (h1 : (z == 1) = false) :
    Calls Try.prog 6 #[.map (some b)] w fun e w' => e = .returned (.tuple #[.pointer none, .int .i64 z]) ∧ w = w' := by
  subst hz
  go_enter Try.func6, Try.ntmps6
  go_wp2_with (first
    | (at_len; refine wpList_len_own _ rfl _ 25 rfl 9 26 Try.underlying25 _ b n D rfl hown ?_)
    | go_in)
  go_ret2
  exact ⟨rfl, rfl⟩

set_option maxHeartbeats 400000 in
/-- Just one entry: its pointer, and 1. -/
theorem only_one (b n c : Nat) (D : DataW Unit) (k0 : Lit) (w : World) (hown : w.ownsMap Try.prog 9 ptrElem b n D) (h1 : Maps.size D = 1) (hk0 : Maps.has D k0 = true) (hc : D.atKey k0 (.lit (.int .i64 (-1))) = .lit (.int .i64 (c : Int))) :
    Calls Try.prog 6 #[.map (some b)] w fun e w' => e = .returned (.tuple #[.pointer (some ⟨c, 0, none⟩), .int .i64 1]) ∧ w'.ownsMap Try.prog 9 ptrElem b n D ∧ Below w.heap.size w w' := by
  have H1 : Hid (Maps.size D = 1) := h1
  have HC : Hid (D.atKey k0 (.lit (.int .i64 (-1))) = .lit (.int .i64 (c : Int))) := hc
  have HK : Hid (Maps.has D k0 = true) := hk0
  clear hc hk0
  go_enter Try.func6, Try.ntmps6
  go_wp2_with (first
    | (at_len; refine wpList_len_own _ rfl _ 25 rfl 9 26 Try.underlying25 _ b n D rfl hown ?_)
    | (at_range; refine wpList_range_own _ rfl _ 25 rfl 9 26 law9 Try.underlying25 _ b n D rfl hown ?_; intro w0 hrg0 hg0 hs0)
    | go_in)
  go_frame
  go_loopw [4] (fun v wr => ∃ (left : Lit → Bool) (cnt : Nat), wr.ranges Try.prog 9 ptrElem b w.heap.size n D left cnt ∧ Below w.heap.size w wr ∧ ((cnt = 1 ∧ v = .pointer none ∧ left = Maps.has D) ∨ (cnt = 0 ∧ v = .pointer (some ⟨c, 0, none⟩))))
    (fun _ wr => wr.rangeLeft b w.heap.size)
  case atStart => exact ⟨_, _, hrg0, (Below.refl _ _).grown hg0 (Nat.le_refl _) (fun j hj => by cases hj), Or.inl ⟨H1.out, rfl, rfl⟩⟩
  case round =>
    obtain ⟨left, cnt, hrg, hbel, hst⟩ := hrel
    rcases hst with ⟨hc1, rfl, hlf⟩ | ⟨hc0, rfl⟩
    · have HL : Hid (left = Maps.has D) := hlf
      have HC1 : Hid (cnt = 1) := hc1
      clear hlf hc1
      go_wp2_with (first
        | (at_next; refine wpList_next_ranges _ rfl _ rfl 9 law9 ptrElem Value.string Value.pointer invK (fun v y h => ptrElem_inv h) b w.heap.size n _ _ _ rfl hrg ?_ ?_)
        | go_in)
      · intro h0; exact absurd h0 (by rw [HC1.out]; decide)
      · intro x a kl y ps w1 cnt1 hkey hlk hy hat hrg1 hlt hg1 hs1 hen
        obtain rfl : kl = k0 := one_key H1.out (by rw [← HL.out]; exact hlk) HK.out
        have ha : a = some ⟨c, 0, none⟩ := by
          have e1 := hat (.lit (.int .i64 (-1)))
          rw [HC.out] at e1
          refine ptrElem_at (ps := ps) ?_
          rw [hy, e1]
        subst ha
        have hbel1 := hbel.grown hg1 hbel.size (fun j hj => by cases hj; exact Nat.le_refl _)
        clear hat hy hlk hkey
        go_wp2
        go_roundw
        case rel => exact ⟨_, cnt1, hrg1, hbel1, Or.inr ⟨by have := HC1.out; omega, rfl⟩⟩
        case measure => rw [hrg1.left_eq, hrg.left_eq]; exact hlt
    · have HC0 : Hid (cnt = 0) := hc0
      clear hc0
      go_wp2_with (first
        | (at_next; refine wpList_next_ranges _ rfl _ rfl 9 law9 ptrElem Value.string Value.pointer invK (fun v y h => ptrElem_inv h) b w.heap.size n _ _ _ rfl hrg ?_ ?_)
        | go_in)
      · intro _ _
        go_wp2_with (first
          | (at_len; refine wpList_len_own _ rfl _ 25 rfl 9 26 Try.underlying25 _ b n D rfl hrg.owns ?_)
          | go_in)
        go_ret2
        exact ⟨rfl, hrg.owns, hbel⟩
      · intro x a kl y ps w1 cnt1 _ _ _ _ _ hlt; exact absurd hlt (by rw [HC0.out]; omega)

end Go.Proofs.Qxb6629202a
