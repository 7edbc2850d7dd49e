/-
  The contracts of the five functions that wrap a list of ranges.
-/
import Derived.Test.YticjdbdhnfmidaaHA
namespace Go.Proofs.Yticjdbdhnfmidaa.K
open Go.RowKit Go.Proofs.YticjdbdhnfmidaaW.PrintWords Go.Proofs.YticjdbdhnfmidaaW.PrintLast Go.Proofs.YticjdbdhnfmidaaW.PrintMore

theorem addL_len (L : List S56) (b l : Int) : (addL L b l).length ≤ L.length + 1 := by
  unfold addL
  have := succL_le L b
  split <;> split <;> simp <;> omega
theorem cutL_len (L : List S56) (a : Int) : (cutL L a).length ≤ L.length := by
  unfold cutL
  split
  · simp
  · have := succL_le L a
    split
    · split
      · simp; omega
      · simp; omega
    · simp; omega

set_option maxHeartbeats 1000000 in
theorem mranges_Add.calls (A0 : Option Addr) (c0 : Nat) (l0 : List (S56)) (a1_0 : Int) (a1_1 : Int) (r1 : List (S56)) (r2 : Int) (w : World) (hr0 : Kd.C k56 w A0 l0.length l0) (hc0 : l0.length ≤ c0) (h : mranges_Add.f l0 a1_0 a1_1 = some (r1, r2)) :
    Calls Try.prog 19 #[.slice A0 l0.length c0, .agg #[.int .u64 a1_0, .int .u64 a1_1]] w fun e w' => ∃ v0_ : Value, e = .returned (.tuple #[v0_, .int .u64 r2]) ∧ Kd.R k56 56 w' w.heap.size (fun _ => True) v0_ r1 ∧ Below w.heap.size w w' := by
  unfold mranges_Add.f at h
  split at h
  case isFalse => exact absurd h (by simp)
  rename_i hc
  obtain ⟨hf, b0, bl, l1⟩ := hc
  simp only [Option.some.injEq, Prod.mk.injEq] at h
  obtain ⟨rfl, rfl⟩ := h
  have hb1 : Below w.heap.size w (w.alloc (.cells #[.int .u64 a1_0, .int .u64 a1_1] 56)) := below_alloc (Below.refl _ _) _
  have hx1 : (w.alloc (.cells #[.int .u64 a1_0, .int .u64 a1_1] 56)).heap[w.heap.size]? = some (.cells #[.int .u64 a1_0, .int .u64 a1_1] 56 (0, 0)) := blk_new _ _
  have HC1 := Aside0.mk (Kd.C_below hr0 hb1)
  have HC0 := Aside0.mk hc0
  have HF := Aside0.mk hf
  have HG := Aside0.mk (fitL_get hf)
  have HB1 := Aside0.mk hb1
  have HX1 := Aside0.mk hx1
  clear hr0 hc0 hf hb1 hx1
  go_enter Try.func19, Try.ntmps19
  go_wp2_with fail
  generalize (w.alloc (.cells #[.int .u64 a1_0, .int .u64 a1_1] 56)) = w1 at HB1 HX1 HC1 ⊢
  refine (ins_c A0 c0 l0 _ HC1.out HC0.out (fitL_len HF.out) HG.out).mono ?_
  rintro e w2 ⟨g, gr, c, cur, rfl, hst, hc1, hb2⟩
  have HS2 := Aside0.mk hst
  have HB2 := Aside0.mk (below_step HB1.out hb2)
  have cX0 : w2.cell? ⟨w.heap.size, 0, none⟩ = some (.int .u64 a1_0) := (blk_cell (blk_below HX1.out hb2) 0).trans rfl
  have cX1 : w2.cell? ⟨w.heap.size, 1, none⟩ = some (.int .u64 a1_1) := (blk_cell (blk_below HX1.out hb2) 1).trans rfl
  have HW1 := Aside0.mk (Nat.le_trans HB1.out.size (Nat.le_refl _))
  clear hst hb2
  go_wp2_with fail
  refine (in_c _ _ _).mono ?_
  rintro e w3 ⟨rfl, hb3⟩
  have HS3 := Aside0.mk (HS2.out.below hb3)
  have HB3 := Aside0.mk (below_step HB2.out hb3)
  clear hb3
  go_wp2_with fail
  refine (add_c HS3.out HF.out hc1 a1_0 a1_1 b0 bl l1).mono ?_
  rintro e w4 ⟨gr', c', cur', rfl, hst4, hb4⟩
  have HS4 := Aside0.mk hst4
  have HB4 := Aside0.mk (HB3.out.trans (hb4.mono HW1.out))
  clear hst4 hb4
  go_wp2_with fail
  refine (outs_c HS4.out (by have := addL_len l0 a1_0 a1_1; have := fitL_len HF.out; omega)).mono ?_
  rintro e w5 ⟨v, rfl, hr5, hb5⟩
  have HR5 := Aside0.mk (Kd.R_lower hr5 HB4.out.size)
  have HB5 := Aside0.mk (below_step HB4.out hb5)
  clear hr5 hb5
  go_wp2_with fail
  go_ret2
  exact ⟨v, rfl, HR5.out, HB5.out⟩

set_option maxHeartbeats 1000000 in
theorem mranges_CutFrom.calls (A0 : Option Addr) (c0 : Nat) (l0 : List (S56)) (a1 : Int) (r1 : List (S56)) (r2 : Int) (w : World) (hr0 : Kd.C k56 w A0 l0.length l0) (hc0 : l0.length ≤ c0) (h : mranges_CutFrom.f l0 a1 = some (r1, r2)) :
    Calls Try.prog 23 #[.slice A0 l0.length c0, .int .u64 a1] w fun e w' => ∃ v0_ : Value, e = .returned (.tuple #[v0_, .int .u64 r2]) ∧ Kd.R k56 56 w' w.heap.size (fun _ => True) v0_ r1 ∧ Below w.heap.size w w' := by
  unfold mranges_CutFrom.f at h
  split at h
  case isFalse => exact absurd h (by simp)
  rename_i hc
  obtain ⟨hf, a0, a1'⟩ := hc
  simp only [Option.some.injEq, Prod.mk.injEq] at h
  obtain ⟨rfl, rfl⟩ := h
  have HR0 := Aside0.mk hr0
  have HC0 := Aside0.mk hc0
  have HF := Aside0.mk hf
  have HG := Aside0.mk (fitL_get hf)
  clear hr0 hc0 hf
  go_enter Try.func23, Try.ntmps23
  go_wp2_with fail
  refine (ins_c A0 c0 l0 _ HR0.out HC0.out (fitL_len HF.out) HG.out).mono ?_
  rintro e w2 ⟨g, gr, c, cur, rfl, hst, hc1, hb2⟩
  have HS2 := Aside0.mk hst
  have HB2 := Aside0.mk hb2
  clear hst hb2
  go_wp2_with fail
  have hcut : Calls Try.prog 34 #[.pointer (some ⟨g, 0, none⟩), .int .u64 a1] w2 fun e w' => ∃ cur', e = .returned (.tuple #[]) ∧ St w' w.heap.size g gr c cur' (cutL l0 a1) (sumL (cutL l0 a1)) ∧ Below w.heap.size w2 w' := by
    rcases Nat.eq_zero_or_pos (succL l0 a1) with h0 | h0
    · have e : cutL l0 a1 = [] := by unfold cutL; rw [if_pos h0]
      rw [e]
      exact cutGE_none HS2.out HF.out a1 a0 a1' h0
    · exact cutGE_some HS2.out HF.out a1 a0 a1' (succL l0 a1 - 1) (by omega)
  refine hcut.mono ?_
  rintro e w4 ⟨cur', rfl, hst4, hb4⟩
  have HS4 := Aside0.mk hst4
  have HB4 := Aside0.mk (HB2.out.trans hb4)
  clear hst4 hb4 hcut
  go_wp2_with fail
  refine (outs_c HS4.out (by have := cutL_len l0 a1; have := fitL_len HF.out; omega)).mono ?_
  rintro e w5 ⟨v, rfl, hr5, hb5⟩
  have HR5 := Aside0.mk (Kd.R_lower hr5 HB4.out.size)
  have HB5 := Aside0.mk (below_step HB4.out hb5)
  clear hr5 hb5
  go_wp2_with fail
  go_ret2
  exact ⟨v, rfl, HR5.out, HB5.out⟩

theorem sumL_last (L : List S56) (m : Nat) (hm : L.length = m + 1) : sumL L = sumL (L.take m) + ((getL L m).f1 - (getL L m).f0) := by
  have h := take_getL L m (by omega)
  rw [List.take_of_length_le (by omega)] at h
  have h2 := congrArg sumL h
  rw [sumL_append] at h2
  simpa [sumL] using h2

set_option maxHeartbeats 1000000 in
theorem removeLast_c {w : World} {base g gr c : Nat} {cur : Array Value} {L : List S56} (hs : St w base g gr c cur L (sumL L)) (n : Int) (r1 : List (S56)) (r2 : Int) (r3 : Int) (r4 : Int) (h : mranges_RemoveLast.f L n = some (r1, r2, r3, r4)) :
    Calls Try.prog 35 #[.pointer (some ⟨g, 0, none⟩), .int .u64 n] w fun e w' => ∃ cur', e = .returned (.agg #[.int .u64 r3, .int .u64 r4]) ∧ St w' base g gr c cur' r1 r2 ∧ r1.length ≤ 600 ∧ Below base w w' := by
  unfold mranges_RemoveLast.f at h
  split at h
  case isFalse => exact absurd h (by simp)
  rename_i hc
  obtain ⟨hf, hp, n0, n1⟩ := hc
  obtain ⟨m, hm⟩ : ∃ m, L.length = m + 1 := ⟨L.length - 1, by omega⟩
  have hlen := fitL_len hf
  have hsum := fitL_sum hf
  have hl : lastL L = getL L m := by unfold lastL; rw [hm]; rfl
  have hs2 := sumL_last L m hm
  have hg := fitL_get hf m (by omega)
  have hb := sumL_bound (L.take m) (fun i hi => by
    rw [getL_take L m i hi]
    exact fitL_get hf i (by rw [List.length_take] at hi; omega))
  rw [hl] at h
  have e1 : L.length - 1 = m := by omega
  rw [e1] at h
  split at h
  · rename_i hn
    simp only [Option.some.injEq, Prod.mk.injEq] at h
    obtain ⟨rfl, rfl, rfl, rfl⟩ := h
    refine (removeLast_some hs hf m hm hsum.1 hsum.2 n n0 n1 hn (by omega)).mono ?_
    rintro e w' ⟨cur', rfl, hst, hbw⟩
    refine ⟨cur', rfl, ?_, by simp; omega, hbw⟩
    have e2 : sumL (L.take m ++ [⟨(getL L m).f0, (getL L m).f1 - n⟩]) = sumL L - n := by
      rw [sumL_append, hs2]
      simp only [sumL]
      omega
    rw [e2]
    exact hst
  · rename_i hn
    simp only [Option.some.injEq, Prod.mk.injEq] at h
    obtain ⟨rfl, rfl, rfl, rfl⟩ := h
    refine (removeLast_all hs hf m hm hsum.1 hsum.2 n n0 n1 hn (by omega)).mono ?_
    rintro e w' ⟨rfl, hst, hbw⟩
    refine ⟨cur, rfl, ?_, by simp; omega, hbw⟩
    have e2 : sumL (L.take m) = sumL L - ((getL L m).f1 - (getL L m).f0) := by omega
    rw [e2]
    exact hst

set_option maxHeartbeats 2000000 in
theorem mranges_RemoveLast.calls (A0 : Option Addr) (c0 : Nat) (l0 : List (S56)) (a1 : Int) (r1 : List (S56)) (r2 : Int) (r3 : Int) (r4 : Int) (w : World) (hr0 : Kd.C k56 w A0 l0.length l0) (hc0 : l0.length ≤ c0) (h : mranges_RemoveLast.f l0 a1 = some (r1, r2, r3, r4)) :
    Calls Try.prog 24 #[.slice A0 l0.length c0, .int .u64 a1] w fun e w' => ∃ v0_ : Value, e = .returned (.tuple #[v0_, .int .u64 r2, .agg #[.int .u64 r3, .int .u64 r4]]) ∧ Kd.R k56 56 w' w.heap.size (fun _ => True) v0_ r1 ∧ Below w.heap.size w w' := by
  have hf : fitL l0 = true := by
    unfold mranges_RemoveLast.f at h
    split at h
    · rename_i hc; exact hc.1
    · exact absurd h (by simp)
  have hb1 : Below w.heap.size w (w.alloc (.cells #[.int .u64 0, .int .u64 0] 56)) := below_alloc (Below.refl _ _) _
  have hx1 : (w.alloc (.cells #[.int .u64 0, .int .u64 0] 56)).heap[w.heap.size]? = some (.cells #[.int .u64 0, .int .u64 0] 56 (0, 0)) := blk_new _ _
  have HC1 := Aside0.mk (Kd.C_below hr0 hb1)
  have HC0 := Aside0.mk hc0
  have HF := Aside0.mk hf
  have HG := Aside0.mk (fitL_get hf)
  have HB1 := Aside0.mk hb1
  have HX1 := Aside0.mk hx1
  have HH := Aside0.mk h
  clear hr0 hc0 hf hb1 hx1 h
  go_enter Try.func24, Try.ntmps24
  go_wp2_with fail
  generalize (w.alloc (.cells #[.int .u64 0, .int .u64 0] 56)) = w1 at HB1 HX1 HC1 ⊢
  refine (ins_c A0 c0 l0 _ HC1.out HC0.out (fitL_len HF.out) HG.out).mono ?_
  rintro e w2 ⟨g, gr, c, cur, rfl, hst, hc1, hb2⟩
  have HS2 := Aside0.mk hst
  have HB2 := Aside0.mk (below_step HB1.out hb2)
  have HX2 := Aside0.mk (blk_below HX1.out hb2)
  have HW1 : Aside0 (w.heap.size < w1.heap.size) := ⟨blk_lt HX1.out⟩
  clear hst hb2
  go_wp2_with fail
  refine (removeLast_c HS2.out a1 r1 r2 r3 r4 HH.out).mono ?_
  rintro e w3 ⟨cur', rfl, hst3, hlen, hb3⟩
  have HS3 := Aside0.mk hst3
  have HB3 := Aside0.mk (HB2.out.trans (hb3.mono (Nat.le_of_lt HW1.out)))
  have HX3 := Aside0.mk ((hb3.block w.heap.size HW1.out).trans HX2.out)
  have HL := Aside0.mk hlen
  clear hst3 hb3 hlen
  have HW3 := Aside0.mk (blk_lt HX3.out)
  have hb4 : Below w3.heap.size w3 (w3.alloc (.cells #[.int .u64 r3, .int .u64 r4] 71)) := below_alloc (Below.refl _ _) _
  have hx4 : (w3.alloc (.cells #[.int .u64 r3, .int .u64 r4] 71)).heap[w3.heap.size]? = some (.cells #[.int .u64 r3, .int .u64 r4] 71 (0, 0)) := blk_new _ _
  have HS4 := Aside0.mk (HS3.out.below hb4)
  have HX4 := Aside0.mk (blk_below HX3.out hb4)
  have HB4 := Aside0.mk (below_step HB3.out hb4)
  have HY4 := Aside0.mk hx4
  clear hb4 hx4
  go_wp2_with fail
  generalize (w3.alloc (.cells #[.int .u64 r3, .int .u64 r4] 71)) = w4 at HS4 HX4 HB4 HY4 ⊢
  refine (outs_c HS4.out (by have := HL.out; omega)).mono ?_
  rintro e w5 ⟨v, rfl, hr5, hb5⟩
  have HR5 : Aside0 (Kd.R k56 56 w5 w.heap.size (fun k => True ∧ k ≠ w.heap.size) v r1) := ⟨Kd.R_mono (Kd.R_lower (Kd.R_bound hr5) HB4.out.size) (fun k hk => ⟨trivial, by have := blk_lt HX4.out; have := hk.2.1; omega⟩)⟩
  have HB5 := Aside0.mk (below_step HB4.out hb5)
  have HX5 := Aside0.mk (blk_below HX4.out hb5)
  have cY0 : w5.cell? ⟨w3.heap.size, 0, none⟩ = some (.int .u64 r3) := blk_cell (blk_below HY4.out hb5) 0
  have cY1 : w5.cell? ⟨w3.heap.size, 1, none⟩ = some (.int .u64 r4) := blk_cell (blk_below HY4.out hb5) 1
  clear hr5 hb5
  go_wp2_with fail
  refine (out_c _ _ _).mono ?_
  rintro e w6 ⟨rfl, hb6⟩
  have HR6 := Aside0.mk (Kd.R_below HR5.out hb6)
  have HB6 := Aside0.mk (below_step HB5.out hb6)
  have HX6 := Aside0.mk (blk_below HX5.out hb6)
  have cX0 : w6.cell? ⟨w.heap.size, 0, none⟩ = some (.int .u64 0) := blk_cell HX6.out 0
  have cX1 : w6.cell? ⟨w.heap.size, 1, none⟩ = some (.int .u64 0) := blk_cell HX6.out 1
  have fX0 := blk_frozen HX6.out 0
  have fX1 := blk_frozen HX6.out 1
  clear hb6
  go_wp2_with fail
  have hfin : ((w6.setCell ⟨w.heap.size, 0, none⟩ (.int .u64 r3)).setCell ⟨w.heap.size, 1, none⟩ (.int .u64 r4)).heap[w.heap.size]? = some (.cells #[.int .u64 r3, .int .u64 r4] 56 (0, 0)) := by
    simpa using blk_set (blk_set HX6.out 0 (.int .u64 r3)) 1 (.int .u64 r4)
  refine bodyPost_ret (results_list (rs := [.tmp 4, .tmp 5, .cell 6 56]) rfl (by simp) (.tmp (.tmp (.cell w.heap.size 56 #[.int .u64 r3, .int .u64 r4] (0, 0) _ rfl hfin Try.underlying56 rfl (by kernel_rfl) .nil)))) rfl ?_
  exact ⟨v, rfl, Kd.R_mono (Kd.R_far (p := ⟨w.heap.size, 1, none⟩) (Kd.R_far (p := ⟨w.heap.size, 0, none⟩) HR6.out (fun _ hk => hk.2) _) (fun _ hk => hk.2) _) (fun _ _ => trivial), (HB6.out.setCell (Nat.le_refl _) _).setCell (Nat.le_refl _) _⟩

theorem mranges_FindAddrGreaterEqual.calls (A0 : Option Addr) (c0 : Nat) (l0 : List (S56)) (a1 : Int) (r1 : Int) (r2 : Bool) (w : World) (hr0 : Kd.C k56 w A0 l0.length l0) (hc0 : l0.length ≤ c0) (h : mranges_FindAddrGreaterEqual.f l0 a1 = some (r1, r2)) :
    Calls Try.prog 25 #[.slice A0 l0.length c0, .int .u64 a1] w fun e w' => e = .returned (.tuple #[.int .u64 r1, .bool r2]) ∧ Below w.heap.size w w' := by
  unfold mranges_FindAddrGreaterEqual.f at h
  split at h
  case isFalse => exact absurd h (by simp)
  rename_i hc
  obtain ⟨hf, hp, a0, a1'⟩ := hc
  have hn : nextL l0 a1 = (r1, r2) := by
    unfold nextL
    split at h
    · rename_i h0
      simp only [Option.some.injEq, Prod.mk.injEq] at h
      obtain ⟨rfl, rfl⟩ := h
      simp [h0]
    · split at h
      · rename_i h0 h1
        simp only [Option.some.injEq, Prod.mk.injEq] at h
        obtain ⟨rfl, rfl⟩ := h
        simp [h0, h1]
      · split at h <;> rename_i h0 h1 h2 <;> simp only [Option.some.injEq, Prod.mk.injEq] at h <;> obtain ⟨rfl, rfl⟩ := h <;> simp [h0, h1, h2]
  have HR0 := Aside0.mk hr0
  have HC0 := Aside0.mk hc0
  have HF := Aside0.mk hf
  have HN := Aside0.mk hn
  have HG := Aside0.mk (fitL_get hf)
  clear hr0 hc0 hf h hn
  go_enter Try.func25, Try.ntmps25
  go_wp2_with fail
  refine (ins_c A0 c0 l0 _ HR0.out HC0.out (fitL_len HF.out) HG.out).mono ?_
  rintro e w2 ⟨g, gr, c, cur, rfl, hst, hc1, hb2⟩
  have HS2 := Aside0.mk hst
  have HB2 := Aside0.mk hb2
  clear hst hb2
  go_wp2_with fail
  refine (findAddr_c HS2.out HF.out hp a1 a0 a1').mono ?_
  rintro e w3 ⟨rfl, hb3⟩
  rw [HN.out]
  have HB3 := Aside0.mk (below_step HB2.out hb3)
  clear hb3
  go_wp2_with fail
  go_ret2
  exact ⟨rfl, HB3.out⟩

theorem mranges_InList.calls (A0 : Option Addr) (c0 : Nat) (l0 : List (S56)) (a1 : Int) (r : Bool) (w : World) (hr0 : Kd.C k56 w A0 l0.length l0) (hc0 : l0.length ≤ c0) (h : mranges_InList.f l0 a1 = some r) :
    Calls Try.prog 26 #[.slice A0 l0.length c0, .int .u64 a1] w fun e w' => e = .returned (.bool r) ∧ Below w.heap.size w w' := by
  unfold mranges_InList.f at h
  split at h
  case isFalse => exact absurd h (by simp)
  rename_i hc
  obtain ⟨hf, a0, a1'⟩ := hc
  have hn : inL l0 a1 = r := by
    unfold inL
    injection h
  have HR0 := Aside0.mk hr0
  have HC0 := Aside0.mk hc0
  have HF := Aside0.mk hf
  have HN := Aside0.mk hn
  have HG := Aside0.mk (fitL_get hf)
  clear hr0 hc0 hf h hn
  go_enter Try.func26, Try.ntmps26
  go_wp2_with fail
  refine (ins_c A0 c0 l0 _ HR0.out HC0.out (fitL_len HF.out) HG.out).mono ?_
  rintro e w2 ⟨g, gr, c, cur, rfl, hst, hc1, hb2⟩
  have HS2 := Aside0.mk hst
  have HB2 := Aside0.mk hb2
  clear hst hb2
  go_wp2_with fail
  refine (contains_c HS2.out HF.out a1 a0 a1').mono ?_
  rintro e w3 ⟨rfl, hb3⟩
  rw [HN.out]
  have HB3 := Aside0.mk (below_step HB2.out hb3)
  clear hb3
  go_wp2_with fail
  go_ret
  exact ⟨rfl, HB3.out⟩
end Go.Proofs.Yticjdbdhnfmidaa.K
