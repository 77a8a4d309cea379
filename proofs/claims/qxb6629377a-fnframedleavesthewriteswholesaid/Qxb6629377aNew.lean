/-
  DERIVED. Seat b6629377a: the contract of ZZnewWrites.
-/
import Derived.Test.Qxb6629377aAppend
import Derived.Deep.RegionLaw
namespace Go.Proofs.Qxb6629377a
open Go.RowKit

theorem Try.info38 : (Try.prog.info? 38).map (fun i => (i.zero, i.size, i.bytes)) = some (some (.agg #[.int .i64 0, .slice none 0 0]), 2, 32) := by kernel_rfl

/-- 'append' onto a row that the call owns, as one step of a region that draws its order. -/
theorem step_append_own {ops : Array Oper} {o : Oper} {a : Act} {w : World} {K : Act → World → Prop} {Q : Exit → Act → World → Prop} {E : Prop} (hgd : o.guard = none) (s x : Operand) (t : TypeId)
    (ho : o.op = .call { callee := .builtin .append, args := #[s, x], argTypes := #[t, t] })
    (base : Nat) (e : TypeId) (i : TypeInfo) (z : Value) (size bytes : Nat) (ht : Try.prog.underlying t = some (.slice e)) (hi : Try.prog.info? e = some i) (hz : i.zero = some z)
    (hsize : i.size = size) (hby : i.bytes = bytes) (hzs : z.cells.size = size) (hsz : 0 < size)
    (v : Value) (n : Nat) (xs : List Value) (hs : a.eval s = v) (hown : w.ownsRow base e size v n xs)
    (ad : Addr) (m c : Nat) (news : List Value) (hx : a.eval x = .slice (some ad) m c) (hl : news.length = m * size) (hnews : ∀ j u, news[j]? = some u → w.cell? (ad.add j) = some u) (h1 : ∀ u ∈ news, u.oneCell' = true)
    (h63 : n + m ≤ maxLen) (hbytes : (n + m) * bytes ≤ 140737488355328) (hbase : base ≤ w.heap.size)
    (h : ∀ v' w', w'.ownsRow base e size v' (n + m) (xs ++ news) → w.grownBy w' v.ownBlock → (v'.ownBlock = v.ownBlock ∨ v'.ownBlock = some w.heap.size) → K (a.put o.dst v') w') :
    if Region.wanted o (yielded ops a.tmps) = true then Oper.wp Try.prog o a w K Q else E := by
  have hw : Region.wanted o (yielded ops a.tmps) = true := by simp [Region.wanted, hgd]
  rw [if_pos hw]
  obtain ⟨v', w', hr, h2, h3, _, h5⟩ := run_append_own_at (P := Try.prog) w base t o.type e i z size bytes ht hi hz hsize hby hzs hsz v n xs hown ad m c news hl hnews h1 h63 hbytes hbase
  unfold Oper.wp
  simp [execOp, ho, resolve, invoke, builtin, hs, hx, hr, Result.andThen]
  exact h v' w' h2 h3 h5

/-- Two cells a round. -/
def pairTo (f g : Nat → Value) : Nat → List Value
  | 0 => []
  | k + 1 => pairTo f g k ++ [f k, g k]

theorem pairTo_len (f g : Nat → Value) : ∀ k, (pairTo f g k).length = k * 2
  | 0 => rfl
  | k + 1 => by rw [pairTo, List.length_append, pairTo_len f g k]; simp; omega

theorem pairTo_get (f g : Nat → Value) : ∀ k r, r < k → (pairTo f g k)[r * 2]? = some (f r) ∧ (pairTo f g k)[r * 2 + 1]? = some (g r)
  | 0, r, h => absurd h (by omega)
  | k + 1, r, h => by
    have hl := pairTo_len f g k
    rw [pairTo]
    by_cases e : r = k
    · subst e
      rw [List.getElem?_append_right (by omega), List.getElem?_append_right (by omega), hl, Nat.sub_self, show r * 2 + 1 - r * 2 = 1 by omega]
      exact ⟨rfl, rfl⟩
    · rw [List.getElem?_append_left (by omega), List.getElem?_append_left (by omega)]
      exact pairTo_get f g k r (by omega)

theorem pair_new (w : World) (a b : Value) (t : TypeId) : ∀ j u, [a, b][j]? = some u → (w.alloc (.cells #[a, b] t (0, 0))).cell? ((⟨w.heap.size, 0, none⟩ : Addr).add j) = some u := by
  intro j u h
  have hadd : (⟨w.heap.size, 0, none⟩ : Addr).add j = ⟨w.heap.size, 0 + j, none⟩ := by unfold Addr.add; split <;> simp_all
  rw [hadd, Nat.zero_add, Lib.cell_of_heap (heap_alloc_new w _)]
  match j, h with
  | 0, h => simpa using h
  | 1, h => simpa using h
  | j + 2, h => simp at h

theorem pair_one {y : Int} {A : Option Addr} {x C : Nat} : ∀ u ∈ [Value.int .i64 y, .slice A x C], u.oneCell' = true := by
  intro u hu
  simp only [List.mem_cons, List.not_mem_nil, or_false] at hu
  rcases hu with rfl | rfl <;> rfl

/-- The writes as they stand in a value. -/
def WritesAt (w : World) (v : Value) (n : Int) (wh : Nat) (vd : Value) (ats : List Nat) (Ls : List (List UInt8)) : Prop :=
  ∃ AL cL, v = .agg #[.int .i64 n, .int .i64 wh, vd, .slice AL Ls.length cL] ∧ LargeAt w.heap.size w AL ats Ls

theorem owns_shape {B n : Nat} {w : World} {v : Value} {e : TypeId} {size : Nat} {xs : List Value} (h : w.ownsRow B e size v n xs) : ∃ A C, v = .slice A n C := by
  rcases h.2 with ⟨rfl, rfl⟩ | ⟨g, cap, cur, rfl, _⟩
  · exact ⟨_, _, rfl⟩
  · exact ⟨_, _, rfl⟩

theorem owns_beside {B n : Nat} {w w' : World} {v : Value} {e : TypeId} {size : Nat} {xs : List Value} (h : w.ownsRow B e size v n xs) (hs : ∀ g, v.ownBlock = some g → w'.heap[g]? = w.heap[g]?) : w'.ownsRow B e size v n xs := by
  refine ⟨h.1, ?_⟩
  rcases h.2 with hn | ⟨g, cap, cur, rfl, hbg, hg, r⟩
  · exact .inl hn
  · exact .inr ⟨g, cap, cur, rfl, hbg, by rw [hs g rfl]; exact hg, r⟩

theorem large_of {w wF : World} {A : Option Addr} {C : Nat} {zs : List Int} {ats : List Nat} {Ls : List (List UInt8)} {b4 o4 : Nat} (hown : wF.ownsRow w.heap.size 38 2 (.slice A Ls.length C) Ls.length (pairTo (fun r => .int .i64 (zs.getD r 0)) (fun r => (w.cell? ⟨b4, o4 + r, none⟩).getD undef) Ls.length))
    (hz : ∀ k, k < Ls.length → zs.getD k 0 = ((ats.getD k 0 : Nat) : Int)) (hc4 : ∀ r, r < Ls.length → ∃ A' C', w.cell? ⟨b4, o4 + r, none⟩ = some (.slice A' (Ls.getD r []).length C') ∧ WordAt w.heap.size w A' C' (Ls.getD r [])) (hb : Below w.heap.size w wF) :
    LargeAt wF.heap.size wF A ats Ls := by
  have hown' := hown
  rcases hown.2 with ⟨_, h0⟩ | ⟨g, cap, cur, hv, hbg, hg, r⟩
  · exact ⟨0, fun h => absurd h (by omega), fun k hk => absurd hk (by omega)⟩
  · injection hv with hv1 _ hv2
    subst hv1
    refine ⟨g, fun _ => ⟨rfl, (World.ownsRow.lt hown' g rfl).2⟩, fun k hk => ?_⟩
    obtain ⟨A', C', e4, hwd⟩ := hc4 k hk
    obtain ⟨p1, p2⟩ := pairTo_get (fun r => .int .i64 (zs.getD r 0)) (fun r => (w.cell? ⟨b4, o4 + r, none⟩).getD undef) Ls.length k hk
    refine ⟨?_, A', C', ?_, (hwd.on hb (Nat.le_refl _)).up hb.size⟩
    · rw [hown'.cellAt (k * 2) (by omega), p1, hz k hk]
    · rw [hown'.cellAt (k * 2 + 1) (by omega), p2]
      simp [e4]

theorem Try.size33 : (Try.prog.info? 33).map (·.size) = some 4 := by kernel_rfl

set_option maxHeartbeats 1600000 in
theorem new_any (n : Int) (wh : Nat) (Ad : Option Addr) (d cd : Nat) (A3 A4 : Option Addr) (c3 c4 : Nat) (zs : List Int) (ats : List Nat) (Ls : List (List UInt8)) (w : World) (hzl : zs.length = Ls.length) (hll : Ls.length ≤ 1048576)
    (hz : ∀ k, k < zs.length → zs.getD k 0 = ((ats.getD k 0 : Nat) : Int)) (h3 : IntsAt w.heap.size w A3 zs) (h4 : WordsAt w.heap.size w A4 Ls) :
    Calls Try.prog 11 #[.int .i64 n, .int .i64 wh, .slice Ad d cd, .slice A3 Ls.length c3, .slice A4 Ls.length c4] w fun e w' => ∃ v, e = .returned v ∧ WritesAt w' v n wh (.slice Ad d cd) ats Ls ∧ Below w.heap.size w w' := by
  obtain ⟨i0, hi0, hz0, hz1, hz2⟩ := info_parts Try.info38
  obtain ⟨_, b3, o3, hA3, hc3⟩ := h3
  obtain ⟨b4, o4, hA4, hc4⟩ := h4
  obtain ⟨V, hV⟩ : ∃ V : Nat → Value, V = fun r => (w.cell? ⟨b4, o4 + r, none⟩).getD undef := ⟨_, rfl⟩
  obtain ⟨Z, hZ⟩ : ∃ Z : Nat → Value, Z = fun r => .int .i64 (zs.getD r 0) := ⟨_, rfl⟩
  go_enter Try.func11, Try.ntmps11
  go_wp2_with fail
  go_loopw [11, 12] (fun v i wr => ∃ k : Nat, k ≤ Ls.length ∧ i = .int .i64 k ∧ wr.ownsRow w.heap.size 38 2 v k (pairTo Z V k) ∧ Below w.heap.size w wr ∧ w.heap.size < wr.heap.size ∧ v.ownBlock ≠ some w.heap.size ∧
      wr.heap[w.heap.size]? = some (.cells #[.int .i64 0, .int .i64 0, .slice none 0 0, .slice none 0 0] 33 (0, 0))) (fun _ i _ => Ls.length - (intOf i).toNat)
  case atStart => exact ⟨0, Nat.zero_le _, rfl, World.ownsRow_nil _ _ _ _, (Below.refl _ _).alloc (Nat.le_refl _) _, by simp, by simp [Value.ownBlock], heap_alloc_new w _⟩
  case round =>
    obtain ⟨k, hk, rfl, hown, hbk, hsz, hvg, hbox⟩ := hrel
    have HBOX : Hid (wr.heap[w.heap.size]? = some (.cells #[.int .i64 0, .int .i64 0, .slice none 0 0, .slice none 0 0] 33 (0, 0))) := hbox
    by_cases hlt : k < Ls.length
    · obtain ⟨rfl, hb3⟩ := hA3 (by omega)
      obtain ⟨rfl, hb4⟩ := hA4 (by omega)
      obtain ⟨A, C, e4, _⟩ := hc4 k hlt
      have hVk : V k = .slice A (Ls.getD k []).length C := by rw [hV]; simp [e4]
      have e3 := hc3 k (by omega)
      have e3' : wr.cell? ⟨b3, o3 + k, none⟩ = some (.int .i64 (zs.getD k 0)) := (hbk.cell (p := ⟨b3, o3 + k, none⟩) hb3).trans e3
      have e4' : wr.cell? ⟨b4, o4 + k, none⟩ = some (.slice A (Ls.getD k []).length C) := (hbk.cell (p := ⟨b4, o4 + k, none⟩) hb4).trans e4
      obtain ⟨y, hy⟩ : ∃ y, y = zs.getD k 0 := ⟨_, rfl⟩
      obtain ⟨x, hx⟩ : ∃ x, x = (Ls.getD k []).length := ⟨_, rfl⟩
      rw [← hy] at e3'
      rw [← hx] at e4' hVk
      have HP : Hid (pairTo Z V (k + 1) = pairTo Z V k ++ [.int .i64 y, .slice A x C]) := by
        rw [pairTo, hVk, hZ, hy]; exact rfl
      have HC3 : Hid (∀ j, j < zs.length → w.cell? ⟨b3, o3 + j, none⟩ = some (.int .i64 (zs.getD j 0))) := hc3
      clear hx hy e3 e4 hc3 hc4 hVk hz hA3 hA4 hbox
      go_wp2_with fail
      go_region_law (refine step_append_own rfl (.tmp 25) (.tmp 35) 31 rfl w.heap.size 38 i0 _ 2 32 Try.underlying31 hi0 hz0 hz1 hz2 rfl (by decide) u11 k (pairTo Z V k) rfl ((hown.drew).alloc _) ⟨wr.heap.size, 0, none⟩ 1 1 [.int .i64 y, .slice A x C] rfl rfl (pair_new _ _ _ _) pair_one (by unfold maxLen; omega) (by omega) (by simp; omega) ?_; intro v2 w2 hown2 hgr2 hloc2)
      all_goals
        have hs2 := hgr2.size
        simp at hs2
        have hsA : w.heap.size < ((wr.drew).alloc (.cells #[.int .i64 y, .slice A x C] 38 (0, 0))).heap.size := by simp; omega
        have hb2 : Below w.heap.size w w2 := ((below_drewN hbk 1).alloc (Nat.le_of_lt hsz) _).grown hgr2 (Nat.le_of_lt hsA) (fun q hq => (World.ownsRow.lt hown q hq).1)
        have hv2 : v2.ownBlock ≠ some w.heap.size := away hloc2 hsA hvg
        have hbx : w2.heap[w.heap.size]? = some (.cells #[.int .i64 0, .int .i64 0, .slice none 0 0, .slice none 0 0] 33 (0, 0)) := (block_kept hgr2 hsA hvg).trans ((Below.heap_alloc _ _ _ hsz).trans HBOX.out)
        rw [← HP.out] at hown2
        go_wp2
        go_roundw
        case rel => exact ⟨k + 1, by omega, by go_num, hown2, hb2, by omega, hv2, hbx⟩
        case measure => simp [intOf]; omega
    · obtain rfl : k = Ls.length := by omega
      have f0 : wr.cell? ⟨w.heap.size, 0, none⟩ = some (.int .i64 0) := by rw [Lib.cell_of_heap hbox]; rfl
      have f1 : wr.cell? ⟨w.heap.size, 1, none⟩ = some (.int .i64 0) := by rw [Lib.cell_of_heap hbox]; rfl
      have f2 : wr.cell? ⟨w.heap.size, 2, none⟩ = some (.slice none 0 0) := by rw [Lib.cell_of_heap hbox]; rfl
      have f3 : wr.cell? ⟨w.heap.size, 3, none⟩ = some (.slice none 0 0) := by rw [Lib.cell_of_heap hbox]; rfl
      have z0 : wr.frozen? ⟨w.heap.size, 0, none⟩ = false := Lib.frozen_of_heap hbox _
      have z1 : wr.frozen? ⟨w.heap.size, 1, none⟩ = false := Lib.frozen_of_heap hbox _
      have z2 : wr.frozen? ⟨w.heap.size, 2, none⟩ = false := Lib.frozen_of_heap hbox _
      have z3 : wr.frozen? ⟨w.heap.size, 3, none⟩ = false := Lib.frozen_of_heap hbox _
      obtain ⟨AL, cL, rfl⟩ := owns_shape hown
      have HC4 : Hid (∀ r, r < Ls.length → ∃ A' C', w.cell? ⟨b4, o4 + r, none⟩ = some (.slice A' (Ls.getD r []).length C') ∧ WordAt w.heap.size w A' C' (Ls.getD r [])) := hc4
      have HZ : Hid (∀ k, k < zs.length → zs.getD k 0 = ((ats.getD k 0 : Nat) : Int)) := hz
      clear hc3 hc4 hz hbox
      go_wp2_with fail
      obtain ⟨wF, hwF⟩ : ∃ wF : World, wF = ((((wr.setCell ⟨w.heap.size, 0, none⟩ (.int .i64 n)).setCell ⟨w.heap.size, 1, none⟩ (.int .i64 wh)).setCell ⟨w.heap.size, 2, none⟩ (.slice Ad d cd)).setCell ⟨w.heap.size, 3, none⟩ (.slice AL Ls.length cL)) := ⟨_, rfl⟩
      rw [← hwF]
      have hbF : Below w.heap.size w wF := by rw [hwF]; exact (((hbk.setCell (p := ⟨w.heap.size, 0, none⟩) (Nat.le_refl _) _).setCell (p := ⟨w.heap.size, 1, none⟩) (Nat.le_refl _) _).setCell (p := ⟨w.heap.size, 2, none⟩) (Nat.le_refl _) _).setCell (p := ⟨w.heap.size, 3, none⟩) (Nat.le_refl _) _
      have hgF : wF.heap[w.heap.size]? = some (.cells #[.int .i64 n, .int .i64 wh, .slice Ad d cd, .slice AL Ls.length cL] 33 (0, 0)) := by
        rw [hwF]
        simp [World.setCell, Array.getElem?_modify, HBOX.out]
      have hownF : wF.ownsRow w.heap.size 38 2 (.slice AL Ls.length cL) Ls.length (pairTo Z V Ls.length) := owns_beside hown fun g hg => by
        have hne : g ≠ w.heap.size := fun e => hvg (by rw [hg, e])
        rw [hwF, Below.heap_setCell _ _ _ _ hne, Below.heap_setCell _ _ _ _ hne, Below.heap_setCell _ _ _ _ hne, Below.heap_setCell _ _ _ _ hne]
      rw [hZ, hV] at hownF
      refine bodyPost_ret (results_cell_row rfl _ wF w.heap.size 33 #[.int .i64 n, .int .i64 wh, .slice Ad d cd, .slice AL Ls.length cL] (0, 0) _ rfl hgF Try.underlying33 rfl Try.size33) rfl ?_
      exact ⟨_, rfl, ⟨AL, cL, rfl, large_of hownF (fun k hk => HZ.out k (by omega)) HC4.out hbF⟩, hbF⟩

end Go.Proofs.Qxb6629377a
