/-
  The walk of removeGreaterEqual of a list of ranges.
-/
import Derived.Test.YticjdbdhnfmidaaH7
namespace Go.Proofs.Yticjdbdhnfmidaa.K
open Go.RowKit Go.Proofs.YticjdbdhnfmidaaW.PrintWords Go.Proofs.YticjdbdhnfmidaaW.PrintLast Go.Proofs.YticjdbdhnfmidaaW.PrintMore

theorem fitL_sum {L : List S56} (hf : fitL L = true) : 0 ≤ sumL L ∧ sumL L ≤ 600000 := by
  have h1 := sumL_bound L (fitL_get hf)
  have h2 := fitL_len hf
  omega
theorem getL_drop (L : List S56) (p k : Nat) : getL (L.drop p) k = getL L (p + k) := by
  simp only [getL, List.getD_eq_getElem?_getD, List.getElem?_drop]

set_option maxHeartbeats 2000000 in
theorem cutGE_none {w : World} {base g gr c : Nat} {cur : Array Value} {L : List S56} {tot : Int} (hs : St w base g gr c cur L tot) (hf : fitL L = true) (a : Int) (a0 : 0 ≤ a) (a1 : a ≤ 1000) (h0 : succL L a = 0) :
    Calls Try.prog 34 #[.pointer (some ⟨g, 0, none⟩), .int .u64 a] w fun e w' => ∃ cur', e = .returned (.tuple #[]) ∧ St w' base g gr c cur' [] 0 ∧ Below base w w' := by
  have H0 := Aside0.mk h0
  have HS := Aside0.mk hs
  clear h0
  go_enter Try.func34, Try.ntmps34
  go_wp2_with fail
  refine (findSucc_c hs hf a a0 a1).mono ?_
  rintro e w1 ⟨rfl, hb1⟩
  rw [H0.out]
  have HS1 := Aside0.mk (hs.below hb1)
  have HB1 := Aside0.mk hb1
  have cS := HS1.out.cellS
  have cT := HS1.out.cellT
  have fS := HS1.out.frozS 0
  have fT := HS1.out.frozS 1
  have hc0 : (0 : Int) ≤ (c : Int) := by omega
  clear hs hf hb1
  go_wp2
  refine bodyPost_ret (results_none rfl _ _ _) rfl ?_
  have hbw : base ≤ w.heap.size := by have := HS.out.r0; have := blk_lt HS.out.rb; omega
  exact ⟨cur, rfl, by simpa using (HS1.out.setTot 0).cut 0 (by omega), ((HB1.out.mono hbw).setCell HS.out.g0 _).setCell HS.out.g0 _⟩

theorem cl_set01 (L : List S56) : ∀ i, i < L.length → ∀ u v : Int, ((cl L).set (i * 2) (.int .u64 u)).set (i * 2 + 1) (.int .u64 v) = cl (L.take i ++ ⟨u, v⟩ :: L.drop (i + 1)) := by
  induction L with
  | nil => intro i h; simp at h
  | cons x r ih =>
    intro i h u v
    cases i with
    | zero => simp [cl]
    | succ i =>
      have := ih i (by simpa using h) u v
      simp only [cl, Nat.succ_mul, List.set_cons_succ, List.take_succ_cons, List.cons_append, List.drop_succ_cons] at this ⊢
      rw [← this]
/-- An element of the array is stored. -/
theorem St.setE {w : World} {base g gr c : Nat} {cur : Array Value} {L : List S56} {tot : Int} (h : St w base g gr c cur L tot) (i : Nat) (hi : i < L.length) (u v : Int) :
    St ((w.setCell ⟨gr, i * 2, none⟩ (.int .u64 u)).setCell ⟨gr, i * 2 + 1, none⟩ (.int .u64 v)) base g gr c ((cur.setIfInBounds (i * 2) (.int .u64 u)).setIfInBounds (i * 2 + 1) (.int .u64 v)) (L.take i ++ ⟨u, v⟩ :: L.drop (i + 1)) tot where
  gb := by
    have e : (L.take i ++ ⟨u, v⟩ :: L.drop (i + 1)).length = L.length := by simp; omega
    rw [e]; exact blk_far (blk_far h.gb h.ne _) h.ne _
  rb := blk_set (blk_set h.rb _ _) _ _
  g0 := h.g0
  r0 := h.r0
  lc := by
    have e : (L.take i ++ ⟨u, v⟩ :: L.drop (i + 1)).length = L.length := by simp; omega
    rw [e]; exact h.lc
  cm := h.cm
  cs := by rw [Array.size_setIfInBounds, Array.size_setIfInBounds]; exact h.cs
  ct := by
    have e : (L.take i ++ ⟨u, v⟩ :: L.drop (i + 1)).length = L.length := by simp; omega
    rw [e, ← cl_set01 L i hi, ← h.ct, Array.toList_setIfInBounds, Array.toList_setIfInBounds, List.take_set, List.take_set]
theorem cut_c0 (x0 x1 a : Int) (w : World) (h0 : 0 ≤ x0) (h0' : x0 ≤ 1000) (h1 : 0 ≤ x1) (h2 : x1 ≤ 1000) (a0 : 0 ≤ a) (a1 : a ≤ 1000) (h : a ≤ x0) :
    Calls Try.prog 43 #[.agg #[.int .u64 x0, .int .u64 x1], .int .u64 a] w fun e w' => e = .returned (.agg #[.int .u64 0, .int .u64 0]) ∧ Below w.heap.size w w' := by
  have hc := cut_c x0 x1 a w h0 h0' h1 h2 a0 a1
  have e : cutR ⟨x0, x1⟩ a = ⟨0, 0⟩ := by unfold cutR; rw [if_pos h]
  rw [e] at hc
  exact hc
theorem cut_c1 (x0 x1 a : Int) (w : World) (h0 : 0 ≤ x0) (h0' : x0 ≤ 1000) (h1 : 0 ≤ x1) (h2 : x1 ≤ 1000) (a0 : 0 ≤ a) (a1 : a ≤ 1000) (h : ¬ a ≤ x0) (h' : a < x1) :
    Calls Try.prog 43 #[.agg #[.int .u64 x0, .int .u64 x1], .int .u64 a] w fun e w' => e = .returned (.agg #[.int .u64 x0, .int .u64 a]) ∧ Below w.heap.size w w' := by
  have hc := cut_c x0 x1 a w h0 h0' h1 h2 a0 a1
  have e : cutR ⟨x0, x1⟩ a = ⟨x0, a⟩ := by unfold cutR; rw [if_neg h, if_neg (by show ¬ x1 ≤ a; omega)]
  rw [e] at hc
  exact hc
theorem sumL_split (L : List S56) (p : Nat) : sumL L = sumL (L.take p) + sumL (L.drop p) := by
  rw [← sumL_append, List.take_append_drop]

set_option maxRecDepth 100000 in
set_option maxHeartbeats 4000000 in
theorem cutGE_some {w : World} {base g gr c : Nat} {cur : Array Value} {L : List S56} (hs : St w base g gr c cur L (sumL L)) (hf : fitL L = true) (a : Int) (a0 : 0 ≤ a) (a1 : a ≤ 1000) (q : Nat) (h0 : succL L a = q + 1) :
    Calls Try.prog 34 #[.pointer (some ⟨g, 0, none⟩), .int .u64 a] w fun e w' => ∃ cur', e = .returned (.tuple #[]) ∧ St w' base g gr c cur' (cutL L a) (sumL (cutL L a)) ∧ Below base w w' := by
  have hle := succL_le L a
  have hlen := fitL_len hf
  rw [h0] at hle
  have H0 := Aside0.mk h0
  have HS := Aside0.mk hs
  have HF := Aside0.mk hf
  clear h0
  go_enter Try.func34, Try.ntmps34
  go_wp2_with fail
  refine (findSucc_c hs hf a a0 a1).mono ?_
  rintro e w1 ⟨rfl, hb1⟩
  rw [H0.out]
  obtain ⟨p, hp⟩ : ∃ p, p = q + 1 := ⟨_, rfl⟩
  rw [← hp]
  rw [← hp] at hle
  have HP := Aside0.mk hp
  obtain ⟨N, hN⟩ : ∃ N, N = L.length := ⟨_, rfl⟩
  rw [← hN] at hle hlen
  have HN := Aside0.mk hN
  have HS1 := Aside0.mk (hs.below hb1)
  have HB1 := Aside0.mk hb1
  have cS := HS1.out.cellS
  rw [← hN] at cS
  have hNc : N ≤ c := by rw [hN]; exact HS1.out.lc
  have hcm := HS1.out.cm
  have hp0 : ((p : Int) == 0) = false := beq_eq_false_iff_ne.2 (by omega)
  clear hs hf hb1 hp hN
  obtain ⟨A, hA, hrun⟩ : ∃ A : Option Addr, (p < N → A = some ⟨gr, p * 2, none⟩) ∧ ∀ W : World, (Instr.slice 82 (.slice (some ⟨gr, 0, none⟩) N c) (some (.int .i64 (p : Int))) none none).run Try.prog W = .ok (.slice A (N - p) (c - p)) W := by
    by_cases hcp : c = p
    · refine ⟨some ⟨gr, 0, none⟩, by omega, fun W => ?_⟩
      have h1 : (0 : Int) ≤ (p : Int) := by omega
      have h2 : (p : Int) ≤ (N : Int) := by omega
      go_simp
    · refine ⟨some ⟨gr, p * 2, none⟩, fun _ => rfl, fun W => ?_⟩
      have h1 : (0 : Int) ≤ (p : Int) := by omega
      have h2 : (p : Int) ≤ (N : Int) := by omega
      go_simp
  go_wp2
  obtain ⟨K, hK⟩ : ∃ K, K = N - p := ⟨_, rfl⟩
  rw [← hK]
  have HK := Aside0.mk hK
  have hKN : K ≤ 600 := by omega
  have hA' : 0 < K → A = some ⟨gr, p * 2, none⟩ := fun h => hA (by omega)
  have HA := Aside0.mk hA'
  clear hK hrun hA hA' cS
  go_loopw [5, 32] (fun s i wr => ∃ k : Nat, i = .int .i64 k ∧ k ≤ K ∧ s = .int .u64 (sumL ((L.drop p).take k)) ∧ Aside0 (Below w1.heap.size w1 wr)) (fun _ i _ => K - (intOf i).toNat)
  case atStart => exact ⟨0, rfl, Nat.zero_le _, rfl, ⟨Below.refl _ _⟩⟩
  case round =>
    obtain ⟨k, rfl, hk, rfl, HW⟩ := hrel
    by_cases hlt : k < K
    · have hAe := HA.out (by omega)
      subst hAe
      have hpk : p + k < L.length := by have := HN.out; have := HK.out; omega
      have hdl : (L.drop p).length = K := by rw [List.length_drop]; have := HN.out; have := HK.out; omega
      obtain ⟨f0, f1, f2⟩ := fitL_get HF.out (p + k) hpk
      have c0 := (HS1.out.below HW.out).cell0 (p + k) hpk
      have c1 := (HS1.out.below HW.out).cell1 (p + k) hpk
      have e0 : (p + k) * 2 = p * 2 + k * 2 := by omega
      rw [e0] at c0 c1
      have HT := Aside0.mk (show sumL ((L.drop p).take (k + 1)) = sumL ((L.drop p).take k) + ((getL L (p + k)).f1 - (getL L (p + k)).f0) by
        rw [take_getL (L.drop p) k (by omega), sumL_append, getL_drop]; simp [sumL])
      have hsb := sumL_bound ((L.drop p).take k) (fun i hi => by
        rw [getL_take _ _ _ hi, getL_drop]
        rw [List.length_take] at hi
        exact fitL_get HF.out (p + i) (by omega))
      have hsl : ((L.drop p).take k).length ≤ 600 := by rw [List.length_take]; omega
      clear e0 hdl
      obtain ⟨s, hs⟩ : ∃ s, s = sumL ((L.drop p).take k) := ⟨_, rfl⟩
      rw [← hs] at hsb HT
      rw [← hs]
      obtain ⟨x, hx⟩ : ∃ x, x = getL L (p + k) := ⟨_, rfl⟩
      rw [← hx] at f0 f1 f2 c0 c1 HT
      clear hs hx
      have hs0 := hsb.1
      have hs1 : s ≤ 600000 := by omega
      clear hsb
      go_wp2_with fail
      have hb2 : Below wr.heap.size wr (wr.alloc (.cells #[.int .u64 x.f0, .int .u64 x.f1] 71)) := below_alloc (Below.refl _ _) _
      refine (size_c _ _ _ f0 f1 f2).mono ?_
      rintro e w3 ⟨rfl, hb3⟩
      have HB3 := Aside0.mk (below_step (below_step HW.out hb2) hb3)
      clear hb2 hb3 c0 c1
      go_wp2
      go_roundw
      case rel => exact ⟨k + 1, by go_num, by omega, by rw [HT.out], HB3⟩
      case measure => simp [intOf]; omega
    · have hdl : (L.drop p).length = K := by rw [List.length_drop]; have := HN.out; have := HK.out; omega
      have hke : (L.drop p).take k = L.drop p := List.take_of_length_le (by omega)
      rw [hke]
      have HSP := Aside0.mk (sumL_split L p)
      have hsb := fitL_sum HF.out
      have hsd := sumL_bound (L.drop p) (fun i hi => by
        rw [getL_drop]
        exact fitL_get HF.out (p + i) (by rw [List.length_drop] at hi; omega))
      have hst := sumL_bound (L.take p) (fun i hi => by
        rw [getL_take _ _ _ hi]
        exact fitL_get HF.out i (by rw [List.length_take] at hi; omega))
      have h1p : 1 ≤ p := by have := HP.out; omega
      have hpl : p - 1 < L.length := by have := HN.out; omega
      obtain ⟨f0, f1, f2⟩ := fitL_get HF.out (p - 1) hpl
      have HSW := Aside0.mk (HS1.out.below HW.out)
      have cS := HSW.out.cellS
      rw [← HN.out] at cS
      have c0 := HSW.out.cell0 (p - 1) hpl
      have c1 := HSW.out.cell1 (p - 1) hpl
      have htk := sumL_split (L.take p) (p - 1)
      have e1 : (L.take p).drop (p - 1) = [getL L (p - 1)] := by
        have e2 := take_getL L (p - 1) hpl
        rw [show p - 1 + 1 = p by omega] at e2
        rw [e2, List.drop_append_of_le_length (by rw [List.length_take]; omega), List.drop_eq_nil_of_le (by rw [List.length_take]; omega)]
        rfl
      rw [e1, List.take_take, Nat.min_eq_left (by omega)] at htk
      simp only [sumL] at htk
      have hst' := sumL_bound (L.take (p - 1)) (fun i hi => by
        rw [getL_take _ _ _ hi]
        exact fitL_get HF.out i (by rw [List.length_take] at hi; omega))
      obtain ⟨s, hs⟩ : ∃ s, s = sumL (L.drop p) := ⟨_, rfl⟩
      rw [← hs] at HSP hsd
      rw [← hs]
      obtain ⟨x, hx⟩ : ∃ x, x = getL L (p - 1) := ⟨_, rfl⟩
      rw [← hx] at f0 f1 f2 c0 c1 htk
      have HX := Aside0.mk hx
      have HTK := Aside0.mk htk
      have hs0 := hsd.1
      have HSU := Aside0.mk hsb
      have HS0 := Aside0.mk hst
      have HS0' := Aside0.mk hst'
      have hs1 : s ≤ 600000 := by have := HSP.out; have := hst.1; omega
      clear hs hx hsd hke e1 htk hst hst' hsb hdl
      have hpos : (0 : Int) ≤ (p : Int) - 1 := by omega
      go_wp2_with fail
      have hb2 : Below wr.heap.size wr (wr.alloc (.cells #[.int .u64 x.f0, .int .u64 x.f1] 71)) := below_alloc (Below.refl _ _) _
      have hx2 : (wr.alloc (.cells #[.int .u64 x.f0, .int .u64 x.f1] 71)).heap[wr.heap.size]? = some (.cells #[.int .u64 x.f0, .int .u64 x.f1] 71 (0, 0)) := blk_new _ _
      generalize (wr.alloc (.cells #[.int .u64 x.f0, .int .u64 x.f1] 71)) = w2 at hb2 hx2 ⊢
      refine (has_c _ _ _ _ f0 (by omega) (by omega) f2 a0 a1).mono ?_
      rintro e w3 ⟨rfl, hb3⟩
      have hgr : gr < wr.heap.size := blk_lt HSW.out.rb
      have hgg : g < wr.heap.size := blk_lt HSW.out.gb
      have HS3 := Aside0.mk ((HSW.out.below hb2).below hb3)
      have HB3 := Aside0.mk (below_step (below_step HW.out hb2) hb3)
      have HY3 := Aside0.mk (blk_below hx2 hb3)
      clear hb2 hb3 hx2 cS c0 c1
      by_cases hh : hasR ⟨x.f0, x.f1⟩ a = true
      · have hh2 : x.f0 ≤ a ∧ a < x.f1 := by simpa [hasR] using hh
        obtain ⟨hx0, hx1⟩ := hh2
        have cB0 := (blk_cell HY3.out 0).trans rfl
        have cB1 := (blk_cell HY3.out 1).trans rfl
        have HHH := Aside0.mk hh
        go_wp2_with fail
        refine (size_c _ _ _ f0 f1 f2).mono ?_
        rintro e w4 ⟨rfl, hb4⟩
        have HS4 := Aside0.mk (HS3.out.below hb4)
        have HB4 := Aside0.mk (below_step HB3.out hb4)
        have HY4 := Aside0.mk (blk_below HY3.out hb4)
        clear hb4 cB0 cB1 hh
        have cB0 := (blk_cell HY4.out 0).trans rfl
        have cB1 := (blk_cell HY4.out 1).trans rfl
        by_cases hax : a ≤ x.f0
        · go_wp2_with fail
          refine (cut_c0 _ _ _ _ f0 (by omega) (by omega) f2 a0 a1 hax).mono ?_
          rintro e w5 ⟨rfl, hb5⟩
          have HS5 := Aside0.mk (HS4.out.below hb5)
          have HB5 := Aside0.mk (below_step HB4.out hb5)
          have HY5 := Aside0.mk (blk_below HY4.out hb5)
          clear hb5 cB0 cB1
          have cB0 := (blk_cell HY5.out 0).trans rfl
          have cB1 := (blk_cell HY5.out 1).trans rfl
          have fB0 := blk_frozen HY5.out 0
          have fB1 := blk_frozen HY5.out 1
          have hwr : w1.heap.size ≤ wr.heap.size := HW.out.size
          have hbw' : base ≤ w.heap.size := by have := HS.out.r0; have := blk_lt HS.out.rb; omega
          have hgn : g ≠ wr.heap.size := Nat.ne_of_lt hgg
          have hrn : gr ≠ wr.heap.size := Nat.ne_of_lt hgr
          go_wp2_with fail
          have HS6 := Aside0.mk ((HS5.out.far (p := ⟨wr.heap.size, 0, none⟩) hgn hrn (.int .u64 0)).far (p := ⟨wr.heap.size, 1, none⟩) hgn hrn (.int .u64 0))
          have HB6 := Aside0.mk ((HB5.out.setCell (p := ⟨wr.heap.size, 0, none⟩) hwr (.int .u64 0)).setCell (p := ⟨wr.heap.size, 1, none⟩) hwr (.int .u64 0))
          have HY6 := Aside0.mk (show ((w5.setCell ⟨wr.heap.size, 0, none⟩ (.int .u64 0)).setCell ⟨wr.heap.size, 1, none⟩ (.int .u64 0)).heap[wr.heap.size]? = some (.cells #[.int .u64 0, .int .u64 0] 71 (0, 0)) by simpa using blk_set (blk_set HY5.out 0 (.int .u64 0)) 1 (.int .u64 0))
          generalize ((w5.setCell ⟨wr.heap.size, 0, none⟩ (.int .u64 0)).setCell ⟨wr.heap.size, 1, none⟩ (.int .u64 0)) = w6 at HS6 HB6 HY6 ⊢
          clear cB0 cB1 fB0 fB1
          refine (size0_c _).mono ?_
          rintro e w7 ⟨rfl, hb7⟩
          have HS7 := Aside0.mk (HS6.out.below hb7)
          have HB7 := Aside0.mk (below_step HB6.out hb7)
          clear hb7
          have HC := Aside0.mk (show cutL L a = L.take (p - 1) by
            unfold cutL
            rw [H0.out, if_neg (by omega), show q + 1 - 1 = p - 1 by have := HP.out; omega, ← HX.out, if_pos HHH.out, if_pos hax])
          have cS := HS7.out.cellS
          rw [← HN.out] at cS
          have cT := HS7.out.cellT
          have fS := HS7.out.frozS 0
          have fT := HS7.out.frozS 1
          have hsu : IntKind.u64.wrap (sumL L - (s + (x.f1 - x.f0))) = sumL L - (s + (x.f1 - x.f0)) := by have := HSP.out; have := HS0'.out; have := HTK.out; have := HSU.out; simp only [IntKind.wrap_u64]; omega
          have hpc : (p : Int) - 1 ≤ (c : Int) := by omega
          go_wp2
          go_end0
          have hfin := (HS7.out.cut (p - 1) (by have := HN.out; omega)).setTot (sumL L - (s + (x.f1 - x.f0)))
          have hsum : sumL L - (s + (x.f1 - x.f0)) = sumL (L.take (p - 1)) := by have := HSP.out; have := HTK.out; omega
          rw [hsum] at hfin ⊢
          exact ⟨cur, rfl, by rw [HC.out]; exact hfin, (((below_step HB1.out HB7.out).mono hbw').setCell HS7.out.g0 _).setCell HS7.out.g0 _⟩
        · go_wp2_with fail
          refine (cut_c1 _ _ _ _ f0 (by omega) (by omega) f2 a0 a1 (by omega) hx1).mono ?_
          rintro e w5 ⟨rfl, hb5⟩
          have HS5 := Aside0.mk (HS4.out.below hb5)
          have HB5 := Aside0.mk (below_step HB4.out hb5)
          have HY5 := Aside0.mk (blk_below HY4.out hb5)
          clear hb5 cB0 cB1
          have cB0 := (blk_cell HY5.out 0).trans rfl
          have cB1 := (blk_cell HY5.out 1).trans rfl
          have fB0 := blk_frozen HY5.out 0
          have fB1 := blk_frozen HY5.out 1
          have hwr : w1.heap.size ≤ wr.heap.size := HW.out.size
          have hbw' : base ≤ w.heap.size := by have := HS.out.r0; have := blk_lt HS.out.rb; omega
          have hgn : g ≠ wr.heap.size := Nat.ne_of_lt hgg
          have hrn : gr ≠ wr.heap.size := Nat.ne_of_lt hgr
          go_wp2_with fail
          have HS6 := Aside0.mk ((HS5.out.far (p := ⟨wr.heap.size, 0, none⟩) hgn hrn (.int .u64 x.f0)).far (p := ⟨wr.heap.size, 1, none⟩) hgn hrn (.int .u64 a))
          have HB6 := Aside0.mk ((HB5.out.setCell (p := ⟨wr.heap.size, 0, none⟩) hwr (.int .u64 x.f0)).setCell (p := ⟨wr.heap.size, 1, none⟩) hwr (.int .u64 a))
          have HY6 := Aside0.mk (show ((w5.setCell ⟨wr.heap.size, 0, none⟩ (.int .u64 x.f0)).setCell ⟨wr.heap.size, 1, none⟩ (.int .u64 a)).heap[wr.heap.size]? = some (.cells #[.int .u64 x.f0, .int .u64 a] 71 (0, 0)) by simpa using blk_set (blk_set HY5.out 0 (.int .u64 x.f0)) 1 (.int .u64 a))
          generalize ((w5.setCell ⟨wr.heap.size, 0, none⟩ (.int .u64 x.f0)).setCell ⟨wr.heap.size, 1, none⟩ (.int .u64 a)) = w6 at HS6 HB6 HY6 ⊢
          clear cB0 cB1 fB0 fB1
          have cB0 := (blk_cell HY6.out 0).trans rfl
          have cB1 := (blk_cell HY6.out 1).trans rfl
          refine (size_c _ _ _ f0 (by omega) (by omega)).mono ?_
          rintro e w7 ⟨rfl, hb7⟩
          have HS7 := Aside0.mk (HS6.out.below hb7)
          have HB7 := Aside0.mk (below_step HB6.out hb7)
          have HY7 := Aside0.mk (blk_below HY6.out hb7)
          clear hb7 cB0 cB1
          have cB0 := (blk_cell HY7.out 0).trans rfl
          have cB1 := (blk_cell HY7.out 1).trans rfl
          have hne : ((a - x.f0) == 0) = false := beq_eq_false_iff_ne.2 (by omega)
          go_wp2_with fail
          refine (size_c _ _ _ f0 (by omega) (by omega)).mono ?_
          rintro e w8 ⟨rfl, hb8⟩
          have HS8 := Aside0.mk (HS7.out.below hb8)
          have HB8 := Aside0.mk (below_step HB7.out hb8)
          have HY8 := Aside0.mk (blk_below HY7.out hb8)
          clear hb8 cB0 cB1
          go_upto_region 17 with fail
          go_cut [] (fun wx => ∃ cur', Aside0 (St wx base g gr c cur' (L.take (p - 1) ++ ⟨x.f0, a⟩ :: L.drop p) (sumL L)) ∧ Aside0 (Below base w wx))
          case first =>
            have cS := HS8.out.cellS
            rw [← HN.out] at cS
            obtain ⟨m, hm⟩ : ∃ m, m = p - 1 := ⟨_, rfl⟩
            have hml : m < L.length := by omega
            have c0 := HS8.out.cell0 m hml
            have c1 := HS8.out.cell1 m hml
            have cB0 := (blk_cell HY8.out 0).trans rfl
            have cB1 := (blk_cell HY8.out 1).trans rfl
            have fR0 := HS8.out.frozR (m * 2)
            have fR1 := HS8.out.frozR (m * 2 + 1)
            have nG : gr ≠ g := fun e => HS8.out.ne e.symm
            have i0 : (0 : Int) ≤ (m : Int) := by omega
            have i1 : (m : Int) < (N : Int) := by omega
            have i2 : IntKind.i64.wrap ((p : Int) - 1) = (m : Int) := by simp only [IntKind.wrap_i64]; omega
            have HMM := Aside0.mk hm
            clear hm
            go_region_held3 (fun w' => w'.cell? ⟨g, 0, none⟩ = some (.slice (some ⟨gr, 0, none⟩) N c) ∧ w'.cell? ⟨wr.heap.size, 0, none⟩ = some (.int .u64 x.f0) ∧ w'.cell? ⟨wr.heap.size, 1, none⟩ = some (.int .u64 a)) (go_keep) (fail)
            go_wp2_with fail
            go_meet
            have hE := (HS8.out.setE m hml x.f0 a).drew
            have hE2 : L.take m ++ (⟨x.f0, a⟩ : S56) :: L.drop (m + 1) = L.take (p - 1) ++ ⟨x.f0, a⟩ :: L.drop p := by rw [show m + 1 = p by have := HMM.out; omega, HMM.out]
            rw [hE2] at hE
            exact ⟨_, ⟨hE⟩, ⟨below_drew1 ((((below_step HB1.out HB8.out).mono hbw').setCell HS8.out.r0 _).setCell HS8.out.r0 _)⟩⟩
          case rest =>
            obtain ⟨cur', HS9, HB9⟩ := hcut
            have HC := Aside0.mk (show cutL L a = L.take (p - 1) ++ [⟨x.f0, a⟩] by
              unfold cutL
              rw [H0.out, if_neg (by omega), show q + 1 - 1 = p - 1 by have := HP.out; omega, ← HX.out, if_pos HHH.out, if_neg (show ¬ a ≤ x.f0 by omega)])
            have cS := HS9.out.cellS
            rw [show (L.take (p - 1) ++ ⟨x.f0, a⟩ :: L.drop p).length = N by have := HN.out; simp; omega] at cS
            have cT := HS9.out.cellT
            have fS := HS9.out.frozS 0
            have fT := HS9.out.frozS 1
            have hsu : IntKind.u64.wrap (sumL L - (s + (x.f1 - x.f0) - (a - x.f0))) = sumL L - (s + (x.f1 - x.f0) - (a - x.f0)) := by have := HSP.out; have := HS0'.out; have := HTK.out; have := HSU.out; simp only [IntKind.wrap_u64]; omega
            have hpc : (p : Int) ≤ (c : Int) := by omega
            go_wp2
            go_end0
            have hfin := (HS9.out.cut p (by have := HN.out; simp; omega)).setTot (sumL L - (s + (x.f1 - x.f0) - (a - x.f0)))
            have e1 : (L.take (p - 1) ++ (⟨x.f0, a⟩ : S56) :: L.drop p).take p = L.take (p - 1) ++ [⟨x.f0, a⟩] := by
              have e2 : (L.take (p - 1)).length = p - 1 := by rw [List.length_take]; omega
              rw [List.take_append, e2, List.take_of_length_le (by omega), show p - (p - 1) = 1 by omega]
              rfl
            have hsum : sumL L - (s + (x.f1 - x.f0) - (a - x.f0)) = sumL (L.take (p - 1) ++ [⟨x.f0, a⟩]) := by
              rw [sumL_append]; simp only [sumL]; have := HSP.out; have := HTK.out; omega
            rw [e1, hsum] at hfin
            rw [hsum]
            exact ⟨cur', rfl, by rw [HC.out]; exact hfin, (HB9.out.setCell HS9.out.g0 _).setCell HS9.out.g0 _⟩
      · have hh' : hasR ⟨x.f0, x.f1⟩ a = false := by simpa using hh
        have HC := Aside0.mk (show cutL L a = L.take p by
          unfold cutL
          rw [H0.out, if_neg (by omega), if_neg (by rw [show q + 1 - 1 = p - 1 by have := HP.out; omega, ← HX.out]; exact hh), HP.out])
        have cS := HS3.out.cellS
        rw [← HN.out] at cS
        have cT := HS3.out.cellT
        have fS := HS3.out.frozS 0
        have fT := HS3.out.frozS 1
        have hsu : IntKind.u64.wrap (sumL L - s) = sumL L - s := by have := HSP.out; have := HS0.out; have := HSU.out; simp only [IntKind.wrap_u64]; omega
        have hpc : (p : Int) ≤ (c : Int) := by omega
        clear hh
        go_wp2
        go_end0
        have hbw' : base ≤ w.heap.size := by have := HS.out.r0; have := blk_lt HS.out.rb; omega
        have hfin := (HS3.out.cut p (by have := HN.out; omega)).setTot (sumL L - s)
        have hsum : sumL L - s = sumL (L.take p) := by have := HSP.out; omega
        rw [hsum] at hfin ⊢
        exact ⟨cur, rfl, by rw [HC.out]; exact hfin, (((below_step HB1.out HB3.out).mono hbw').setCell HS3.out.g0 _).setCell HS3.out.g0 _⟩
end Go.Proofs.Yticjdbdhnfmidaa.K
