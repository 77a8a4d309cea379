/-
  DERIVED. Seat b6629377a: the contract of zzLogForm.
-/
import Derived.Test.Qxb6629377aNested
namespace Go.Proofs.Qxb6629377a
open Go.RowKit

theorem byte_new_one (x : Int) : ∀ u ∈ [Value.int .u8 x], u.oneCell' = true := by
  intro u hu
  simp only [List.mem_singleton] at hu
  subst hu
  rfl

/-- Where the log form stands at place p behind j pieces. -/
def LogAt (B : Nat) (w wr : World) (v : Value) (F D : List UInt8) (wh : Nat) (ats : List Nat) (Ls : List (List UInt8)) (p j : Nat) : Prop :=
  j ≤ Ls.length ∧ fr wh ats j ≤ p ∧ (j < Ls.length → p ≤ fr wh ats (j + 1)) ∧ Own B wr v (F ++ logTo D wh ats Ls j ++ seg D (fr wh ats j) p) ∧ Below B w wr

theorem word_one (w : World) (y : UInt8) : WordAt (w.heap.size + 1) (w.alloc (.cells #[.int .u8 (y.toNat : Int)] 5 (0, 0))) (some ⟨w.heap.size, 0, none⟩) 1 [y] := by
  refine ⟨fun h => by (cases h), w.heap.size, 0, fun _ => ⟨rfl, Nat.lt_succ_self _⟩, fun j hj => ?_⟩
  obtain rfl : j = 0 := by simpa using hj
  rw [Nat.zero_add, Lib.cell_of_heap (heap_alloc_new w _)]
  rfl

theorem LogAt.len {B : Nat} {w wr : World} {v : Value} {F D : List UInt8} {wh : Nat} {ats : List Nat} {Ls : List (List UInt8)} {p j : Nat} (h : LogAt B w wr v F D wh ats Ls p j) (hord : InOrder D wh ats Ls.length) (hp : p ≤ D.length) (hwp : wh ≤ p) :
    (F ++ logTo D wh ats Ls j ++ seg D (fr wh ats j) p).length = F.length + (p - wh) + sumW Ls j := by
  have h1 := logTo_len Ls hord j h.1
  have h2 := hord.le j h.1
  have h3 := h.2.1
  rw [List.length_append, List.length_append, h1, seg_len _ _ _ hp]
  omega

set_option maxHeartbeats 3200000 in
theorem logForm_any (A Ad A3 A4 : Option Addr) (C cd c3 c4 : Nat) (F D : List UInt8) (wh : Nat) (zs : List Int) (ats : List Nat) (Ls : List (List UInt8)) (w : World) (hF : WordAt w.heap.size w A C F) (hD : DataAt w.heap.size w Ad cd D wh)
    (h3 : IntsAt w.heap.size w A3 zs) (h4 : WordsAt w.heap.size w A4 Ls) (hzl : zs.length = Ls.length) (hz : ∀ k, k < zs.length → zs.getD k 0 = ((ats.getD k 0 : Nat) : Int)) (hord : InOrder D wh ats Ls.length)
    (hlim : F.length + (D.length - wh) + sumW Ls Ls.length ≤ 10000000) (hdl : D.length ≤ 1048576) (hll : Ls.length ≤ 1048576) :
    Calls Try.prog 10 #[.slice A F.length C, .int .i64 wh, .slice Ad D.length cd, .slice A3 Ls.length c3, .slice A4 Ls.length c4] w fun e w' => ∃ v, e = .returned v ∧ Own w.heap.size w' v (F ++ logForm D wh ats Ls) ∧ Below w.heap.size w w' := by
  obtain ⟨i0, hi0, hz0, hz1, hz2⟩ := info_parts Try.info5
  have hwd := hord.1
  go_enter Try.func10, Try.ntmps10
  go_wp2_with (first
    | (go_at_call 9; refine (copyBytes_any A C F w hF (by omega)).mono ?_; rintro e w1 ⟨v1, rfl, hown1, hb1⟩))
  go_loopw [11, 12, 13] (fun v j p wr => ∃ jj pp : Nat, j = .int .i64 jj ∧ p = .int .i64 pp ∧ wh ≤ pp ∧ pp ≤ D.length + 1 ∧ (pp = D.length + 1 → jj = Ls.length) ∧ LogAt w.heap.size w wr v F D wh ats Ls pp jj) (fun _ _ p _ => D.length + 1 - (intOf p).toNat)
  case atStart => exact ⟨0, wh, rfl, rfl, Nat.le_refl _, by omega, fun h => by omega, Nat.zero_le _, Nat.le_refl _, fun h => (hord.2 0 h).1, by rw [logTo, fr, seg_self, List.append_nil, List.append_nil]; exact hown1, hb1⟩
  case round =>
    clear hown1 hb1 hF
    obtain ⟨j0, p, rfl, rfl, hp1, hp2, hpe, hlog⟩ := hrel
    obtain ⟨wo, rfl⟩ : ∃ wo : World, wo = wr := ⟨_, rfl⟩
    have HLOG : Hid (LogAt w.heap.size w wo u11 F D wh ats Ls p j0) := hlog
    clear hlog
    obtain ⟨vo, rfl⟩ : ∃ vo : Value, vo = u11 := ⟨_, rfl⟩
    by_cases hle : p ≤ D.length
    · go_wp2_with fail
      go_loopw [11, 12] (fun v i wr => ∃ j : Nat, i = .int .i64 j ∧ LogAt w.heap.size w wr v F D wh ats Ls p j) (fun _ i _ => Ls.length - (intOf i).toNat)
      case atStart => exact ⟨j0, rfl, HLOG.out⟩
      case round =>
        clear HLOG hpe
        obtain ⟨j, rfl, hlog⟩ := hrel
        have hln := hlog.len hord hle hp1
        obtain ⟨hj, hfp, hpf, hown, hbk⟩ := hlog
        have hsz := hbk.size
        have hsm := sumW_mono Ls hj
        obtain ⟨G, hG⟩ : ∃ G, G = F ++ logTo D wh ats Ls j ++ seg D (fr wh ats j) p := ⟨_, rfl⟩
        have HG : Hid (G = F ++ logTo D wh ats Ls j ++ seg D (fr wh ats j) p) := hG
        rw [← hG] at hown hln
        have HFP : Hid (fr wh ats j ≤ p) := hfp
        have HPF : Hid (j < Ls.length → p ≤ fr wh ats (j + 1)) := hpf
        clear hG hfp hpf
        by_cases hlt : j < Ls.length
        · obtain ⟨_, b3, o3, hA3, hc3⟩ := h3.on hbk (Nat.le_refl _)
          obtain ⟨rfl, _⟩ := hA3 (by omega)
          have e3 := hc3 j (by omega)
          rw [hz j (by omega)] at e3
          obtain ⟨a, ha⟩ : ∃ a, a = ats.getD j 0 := ⟨_, rfl⟩
          have HA : Hid (fr wh ats (j + 1) = a) := ha.symm
          rw [← ha] at e3
          have HZ : Hid (∀ k, k < zs.length → zs.getD k 0 = ((ats.getD k 0 : Nat) : Int)) := hz
          clear ha hc3 hA3 hz
          by_cases hap : a = p
          · subst hap
            obtain ⟨b4, o4, hA4, hc4⟩ := h4.on hbk (Nat.le_refl _)
            obtain ⟨rfl, _⟩ := hA4 (by omega)
            obtain ⟨A', C', e4, hwd4⟩ := hc4 j hlt
            obtain ⟨X, hX⟩ : ∃ X, X = Ls.getD j [] := ⟨_, rfl⟩
            rw [← hX] at e4 hwd4
            have HS : Hid (sumW Ls (j + 1) = sumW Ls j + X.length) := by rw [hX]; rfl
            have hsm1 : sumW Ls (j + 1) ≤ sumW Ls Ls.length := sumW_mono Ls hlt
            have HN : Hid (F ++ logTo D wh ats Ls (j + 1) ++ seg D (fr wh ats (j + 1)) a = G ++ X) := by
              rw [HA.out, seg_self, List.append_nil, logTo, HG.out, HA.out, hX]
              show _ = _
              simp only [List.append_assoc]
            have HWD : Hid (WordAt w.heap.size wr A' C' X) := hwd4
            have HL1 : Hid (G.length + X.length ≤ 140737488355328) := by
              show _ ≤ _
              have := HS.out
              omega
            clear hX hc4 hA4 hwd4 hsm1 h3 h4 hD
            go_wp2_with (first
              | (at_builtin; refine wpList_append_word rfl (.tmp 35) (.tmp 39) rfl w.heap.size w.heap.size u11 G X rfl hown A' X.length C' rfl rfl HWD.out HL1.out hsz ?_; intro v2 w2 hown2 hgr2 hloc2 hb2 _))
            rw [← HN.out] at hown2
            go_roundw
            case rel => exact ⟨j + 1, by go_num, by omega, by rw [HA.out]; exact Nat.le_refl _, fun h => by have := (hord.2 (j + 1) h).1; rw [HA.out] at this; exact this, hown2, hbk.trans hb2⟩
            case measure => simp [intOf]; omega
          · have hne : ((a : Int) == (p : Int)) = false := beq_false_of_ne (by omega)
            have hap2 : p < a := by have := HPF.out hlt; rw [HA.out] at this; omega
            have had : a ≤ D.length := by have := (hord.2 j hlt).2; rw [HA.out] at this; exact this
            have hpd : p < D.length := by omega
            clear hap
            obtain ⟨h1, h2, h3', g, h4', h5⟩ := hD.on hbk (Nat.le_refl _)
            have hAn : Ad ≠ none := fun e => by have := (h1 e).1; rw [this] at hpd; simp at hpd
            obtain ⟨rfl, _⟩ := h4' hAn
            have e5 := h5 p hp1 hpd
            obtain ⟨y, hy⟩ : ∃ y, y = D.getD p 0 := ⟨_, rfl⟩
            rw [← hy] at e5
            have HN : Hid (F ++ logTo D wh ats Ls j ++ seg D (fr wh ats j) (p + 1) = G ++ [y]) := by
              rw [seg_snoc _ _ _ HFP.out hpd, HG.out, hy]
              show _ = _
              simp only [List.append_assoc]
            clear hy h1 h2 h3' h4' h5 hAn hD
            go_wp2_with (first
              | (at_builtin; refine wpList_append_word rfl (.tmp 47) (.tmp 52) rfl w.heap.size (wr.heap.size + 1) u11 G [y] rfl (own_keep hown (Nat.le_refl _) ((Below.refl _ _).alloc (Nat.le_refl _) _)) (some ⟨wr.heap.size, 0, none⟩) 1 1 rfl rfl (word_one wr y) (by simp; omega) (by simp; omega) ?_; intro v2 w2 hown2 hgr2 hloc2 hb2 _))
            rw [← HN.out] at hown2
            have hb3 : Below w.heap.size w w2 := (hbk.alloc hsz _).trans hb2
            go_roundw
            case rel => exact ⟨j, p + 1, rfl, by go_num, by omega, by omega, fun h => by omega, hj, Nat.le_succ_of_le HFP.out, fun _ => by rw [HA.out]; exact hap2, hown2, hb3⟩
            case measure => simp [intOf]; omega
        · obtain rfl : j = Ls.length := by omega
          by_cases hpd : p < D.length
          · clear h3 h4
            obtain ⟨h1, h2, h3', g, h4', h5⟩ := hD.on hbk (Nat.le_refl _)
            have hAn : Ad ≠ none := fun e => by have := (h1 e).1; rw [this] at hpd; simp at hpd
            obtain ⟨rfl, _⟩ := h4' hAn
            have e5 := h5 p hp1 hpd
            obtain ⟨y, hy⟩ : ∃ y, y = D.getD p 0 := ⟨_, rfl⟩
            rw [← hy] at e5
            have HN : Hid (F ++ logTo D wh ats Ls Ls.length ++ seg D (fr wh ats Ls.length) (p + 1) = G ++ [y]) := by
              rw [seg_snoc _ _ _ HFP.out hpd, HG.out, hy]
              show _ = _
              simp only [List.append_assoc]
            clear hy h1 h2 h3' h4' h5 hAn hD
            go_wp2_with (first
              | (at_builtin; refine wpList_append_word rfl (.tmp 47) (.tmp 52) rfl w.heap.size (wr.heap.size + 1) u11 G [y] rfl (own_keep hown (Nat.le_refl _) ((Below.refl _ _).alloc (Nat.le_refl _) _)) (some ⟨wr.heap.size, 0, none⟩) 1 1 rfl rfl (word_one wr y) (by simp; omega) (by simp; omega) ?_; intro v2 w2 hown2 hgr2 hloc2 hb2 _))
            rw [← HN.out] at hown2
            have hb3 : Below w.heap.size w w2 := (hbk.alloc hsz _).trans hb2
            go_roundw
            case rel => exact ⟨Ls.length, p + 1, rfl, by go_num, by omega, by omega, fun _ => rfl, hj, Nat.le_succ_of_le HFP.out, fun h => absurd h (by omega), hown2, hb3⟩
            case measure => simp [intOf]; omega
          · obtain rfl : p = D.length := by omega
            go_wp2_with fail
            go_roundw
            case rel =>
              refine ⟨Ls.length, D.length + 1, rfl, by go_num, by omega, Nat.le_refl _, fun _ => rfl, hj, Nat.le_succ_of_le HFP.out, fun h => absurd h (by omega), ?_, hbk⟩
              rw [seg_over _ _ _ (Nat.le_succ _), ← HG.out]
              exact hown
            case measure => simp [intOf]
    · obtain rfl : p = D.length + 1 := by omega
      obtain rfl := hpe rfl
      go_wp2
      go_ret
      obtain ⟨_, _, _, hown, hbk⟩ := HLOG.out
      refine ⟨_, rfl, ?_, hbk⟩
      rw [seg_over _ _ _ (Nat.le_succ _), List.append_assoc] at hown
      exact hown

end Go.Proofs.Qxb6629377a
