/-
  The walk of ins: an addrRanges in memory of the call's own, with the given ranges and their sum.
-/
import Derived.Test.YticjdbdhnfmidaaH5
import Derived.Deep.RegionLaw
namespace Go.Proofs.Yticjdbdhnfmidaa.K
open Go.RowKit Go.Proofs.YticjdbdhnfmidaaW.PrintWords Go.Proofs.YticjdbdhnfmidaaW.PrintLast Go.Proofs.YticjdbdhnfmidaaW.PrintMore

theorem sumL_append (L M : List S56) : sumL (L ++ M) = sumL L + sumL M := by
  induction L with
  | nil => simp [sumL]
  | cons x r ih => simp only [List.cons_append, sumL, ih]; omega
theorem sumL_bound (L : List S56) (h : ∀ i, i < L.length → 0 ≤ (getL L i).f0 ∧ (getL L i).f0 < (getL L i).f1 ∧ (getL L i).f1 ≤ 1000) : 0 ≤ sumL L ∧ sumL L ≤ L.length * 1000 := by
  induction L with
  | nil => simp [sumL]
  | cons x r ih =>
    have h0 := h 0 (by simp)
    simp only [getL, List.getD_cons_zero] at h0
    have h1 := ih (fun i hi => by simpa [getL] using h (i + 1) (by simpa using hi))
    simp only [sumL, List.length_cons]
    constructor
    · omega
    · have e : ((r.length + 1 : Nat) : Int) * 1000 = (r.length : Int) * 1000 + 1000 := by omega
      omega
theorem getL_take (L : List S56) (k i : Nat) (h : i < (L.take k).length) : getL (L.take k) i = getL L i := by
  simp only [getL, List.getD_eq_getElem?_getD, List.getElem?_take]
  rw [List.length_take] at h
  rw [if_pos (by omega)]
theorem st_made (w : World) : St ((w.alloc (.cells (Array.replicate 32 (.int .u64 0)) 71)).alloc (.cells #[.slice (some ⟨w.heap.size, 0, none⟩) 0 16, .int .u64 0] 84)) w.heap.size (w.heap.size + 1) w.heap.size 16 (Array.replicate 32 (.int .u64 0)) [] 0 where
  gb := by
    have := blk_new (w.alloc (.cells (Array.replicate 32 (.int .u64 0)) 71)) (.cells #[.slice (some ⟨w.heap.size, 0, none⟩) 0 16, .int .u64 0] 84)
    simpa using this
  rb := blk_alloc (blk_new _ _) _
  g0 := by omega
  r0 := Nat.le_refl _
  lc := by simp
  cm := by omega
  cs := by simp
  ct := by simp [cl]

theorem own_some {w : World} {base : Nat} {e : TypeId} {size : Nat} {v : Value} {n : Nat} {xs : List Value} (h : w.ownsRow base e size v (n + 1) xs) :
    ∃ gr c cur, v = .slice (some ⟨gr, 0, none⟩) (n + 1) c ∧ base ≤ gr ∧ w.heap[gr]? = some (.cells cur e (0, 0)) ∧ n + 1 ≤ c ∧ c ≤ 9223372036854775807 ∧ cur.size = c * size ∧ cur.toList.take ((n + 1) * size) = xs := by
  rcases h.2 with ⟨_, h0⟩ | ⟨g, cap, cur, rfl, hb, hg, hn, hm, hs, ht⟩
  · omega
  · exact ⟨g, cap, cur, rfl, hb, hg, hn, by simpa [maxLen] using hm, hs, ht⟩
theorem St.own {w : World} {base g gr c : Nat} {cur : Array Value} {L : List S56} {tot : Int} (h : St w base g gr c cur L tot) : w.ownsRow base 71 2 (.slice (some ⟨gr, 0, none⟩) L.length c) L.length (cl L) :=
  ⟨cl_length L, .inr ⟨gr, c, cur, rfl, h.r0, h.rb, h.lc, by simpa [maxLen] using h.cm, h.cs, h.ct⟩⟩
/-- What an append through the field leaves, once the field is stored. -/
theorem St.appended {w w1 w2 : World} {base g gr c : Nat} {cur : Array Value} {L : List S56} {tot : Int} (h : St w base g gr c cur L tot) (x : S56) {v1 : Value}
    (ho : w1.ownsRow base 71 2 v1 (L.length + 1) (cl L ++ [.int .u64 x.f0, .int .u64 x.f1])) (hg : w.grownBy w1 (some gr)) (hw : w2 = w1.setCell ⟨g, 0, none⟩ v1) :
    ∃ gr' c' cur', St w2 base g gr' c' cur' (L ++ [x]) tot := by
  obtain ⟨gr', c', cur', rfl, hb, hr, hn, hm, hs, ht⟩ := own_some ho
  subst hw
  have hgb : w1.heap[g]? = some (.cells #[.slice (some ⟨gr, 0, none⟩) L.length c, .int .u64 tot] 84 (0, 0)) := blk_grown h.gb hg (fun e => h.ne (by injection e))
  refine ⟨gr', c', cur', ?_, ?_, h.g0, hb, by simpa using hn, hm, hs, ?_⟩
  · simpa using blk_set hgb 0 (.slice (some ⟨gr', 0, none⟩) (L.length + 1) c')
  · exact blk_far hr (by have := blk_ne hgb hr (by decide); exact fun e => this e.symm) _
  · rw [List.length_append, cl_append]; exact ht

/-- The sum is stored. -/
theorem St.setTot {w : World} {base g gr c : Nat} {cur : Array Value} {L : List S56} {tot : Int} (h : St w base g gr c cur L tot) (t : Int) : St (w.setCell ⟨g, 1, none⟩ (.int .u64 t)) base g gr c cur L t :=
  ⟨by simpa using blk_set h.gb 1 (.int .u64 t), blk_far h.rb (fun e => h.ne e.symm) _, h.g0, h.r0, h.lc, h.cm, h.cs, h.ct⟩

set_option maxHeartbeats 2000000 in
theorem ins_c (A0 : Option Addr) (c0 : Nat) (L : List S56) (w : World) (hr0 : Kd.C k56 w A0 L.length L) (hc0 : L.length ≤ c0) (hlen : L.length ≤ 600) (hg : ∀ i, i < L.length → 0 ≤ (getL L i).f0 ∧ (getL L i).f0 < (getL L i).f1 ∧ (getL L i).f1 ≤ 1000) :
    Calls Try.prog 28 #[.slice A0 L.length c0] w fun e w' => ∃ g gr c cur, e = .returned (.pointer (some ⟨g, 0, none⟩)) ∧ St w' w.heap.size g gr c cur L (sumL L) ∧ 1 ≤ c ∧ Below w.heap.size w w' := by
  have HR0 := Aside0.mk hr0
  have HC0 := Aside0.mk hc0
  have HG := Aside0.mk hg
  clear hr0 hc0 hg
  have hmk : ∀ W : World, (Instr.makeSlice 82 (.int .i64 0) (.int .i64 16)).run Try.prog W = .ok (.slice (some ⟨W.heap.size, 0, none⟩) 0 16) (W.alloc (.cells (Array.replicate 32 (.int .u64 0)) 71)) := fun _ => by kernel_rfl
  have hst := st_made w
  have hb1 : Below w.heap.size w ((w.alloc (.cells (Array.replicate 32 (.int .u64 0)) 71)).alloc (.cells #[.slice (some ⟨w.heap.size, 0, none⟩) 0 16, .int .u64 0] 84)) := below_alloc (below_alloc (Below.refl _ _) _) _
  go_enter Try.func28, Try.ntmps28
  go_wp2
  clear hmk
  generalize ((w.alloc (.cells (Array.replicate 32 (.int .u64 0)) 71)).alloc (.cells #[.slice (some ⟨w.heap.size, 0, none⟩) 0 16, .int .u64 0] 84)) = w1 at hst hb1 ⊢
  obtain ⟨g, hgv⟩ : ∃ g, g = w.heap.size + 1 := ⟨_, rfl⟩
  rw [← hgv] at hst
  rw [← hgv]
  clear hgv
  have HS1 := Aside0.mk hst
  have HB1 := Aside0.mk hb1
  clear hst hb1
  go_loopw [11] (fun i wr => ∃ k : Nat, i = .int .i64 k ∧ k ≤ L.length ∧ Aside0 (∃ gr c cur, St wr w.heap.size g gr c cur (L.take k) (sumL (L.take k)) ∧ 1 ≤ c) ∧ Aside0 (Below w.heap.size w wr)) (fun i _ => L.length - (intOf i).toNat)
  case atStart => exact ⟨0, rfl, Nat.zero_le _, ⟨_, _, _, HS1.out, by omega⟩, HB1⟩
  case round =>
    clear HS1 HB1
    obtain ⟨k, rfl, hk, HE, HB⟩ := hrel
    by_cases hlt : k < L.length
    · obtain ⟨gr, c, cur, hst, _⟩ := HE.out
      clear HE
      have HT := Aside0.mk (take_getL L k hlt)
      have HX := Aside0.mk (HG.out k hlt)
      have hml : (L.take k).length = k := by rw [List.length_take]; omega
      have HML := Aside0.mk hml
      clear hml
      obtain ⟨ad, e0, hx0, hx1⟩ := at_T56 HR0.out (k : Int) (by omega) (by omega)
      have eg : rd_T56 L (k : Int) = getL L k := by simp [rd_T56, getL]
      rw [eg] at hx0 hx1
      clear eg
      simp only [Int.toNat_natCast] at hx0 hx1
      replace hx0 := (HB.out.cell (World.block_lt_of_cell? w _ hx0)).trans hx0
      replace hx1 := (HB.out.cell (World.block_lt_of_cell? w _ hx1)).trans hx1
      subst e0
      obtain ⟨M, hM⟩ : ∃ M, M = L.take k := ⟨_, rfl⟩
      obtain ⟨x, hx⟩ : ∃ x, x = getL L k := ⟨_, rfl⟩
      rw [← hM] at hst
      rw [← hx] at hx0 hx1
      have HM := Aside0.mk hM
      have HXX := Aside0.mk hx
      have hMl : M.length ≤ 600 := by rw [hM, List.length_take]; omega
      clear hM hx
      have hxs : w.heap.size ≤ wr.heap.size := HB.out.size
      go_upto_region 5 with fail
      have hbx : Below wr.heap.size wr (wr.alloc (.cells #[.int .u64 x.f0, .int .u64 x.f1] 56)) := below_alloc (Below.refl _ _) _
      have hxx : (wr.alloc (.cells #[.int .u64 x.f0, .int .u64 x.f1] 56)).heap[wr.heap.size]? = some (.cells #[.int .u64 x.f0, .int .u64 x.f1] 56 (0, 0)) := blk_new _ _
      generalize (wr.alloc (.cells #[.int .u64 x.f0, .int .u64 x.f1] 56)) = w2 at hbx hxx ⊢
      replace hst := hst.below hbx
      have HB2 := Aside0.mk (below_drew1 (below_step HB.out hbx))
      clear HB hbx hx0 hx1
      go_cut [] (fun wx => ∃ gr c cur, Aside0 (St wx w.heap.size g gr c cur (M ++ [x]) (sumL M)) ∧ Aside0 (wx.heap[wr.heap.size]? = some (.cells #[.int .u64 x.f0, .int .u64 x.f1] 56 (0, 0))) ∧ Aside0 (Below w.heap.size w wx))
      case first =>
        have HS := Aside0.mk (hst.below (below_drew1 (Below.refl _ _)))
        have HX2 := Aside0.mk (blk_drew hxx)
        have cS := hst.cellS
        have cX0 : w2.cell? ⟨wr.heap.size, 0, none⟩ = some (.int .u64 x.f0) := (blk_cell hxx 0).trans rfl
        have cX1 : w2.cell? ⟨wr.heap.size, 1, none⟩ = some (.int .u64 x.f1) := (blk_cell hxx 1).trans rfl
        clear hst hxx
        go_region_law ((first | (refine step_append_cells (w0 := w) w.heap.size (by rfl) (.tmp 19) (.tmp 22) 82 71 (.agg #[.int .u64 0, .int .u64 0]) 2 16 (by rfl) Try.underlying82 (by kernel_rfl) rfl (by decide) (by decide) (.slice (some ⟨gr, 0, none⟩) M.length c) M.length (cl M) [.int .u64 x.f0, .int .u64 x.f1] (by rfl) (by rfl) rfl (by simp [Value.oneCell']) HS3.out.own HB3.out (below_size HB3.out) (by omega) ?_; intro v1 w4 ho4 hb4 hg4 hat4; obtain ⟨A4, c4, rfl⟩ := own_slice ho4; have HS4 := Aside0.mk (fun w5 e5 => HS3.out.appended x (w2 := w5) ho4 hg4 e5); have HB4 := Aside0.mk hb4; have hgb4 := blk_grown HS3.out.gb hg4 (fun e => HS3.out.ne (by injection e)); have cS4 := (blk_cell hgb4 0).trans rfl; have fS4 := blk_frozen hgb4 0; have HX4 := Aside0.mk (blk_grown HX3.out hg4 (fun e => blk_ne HX3.out HS3.out.rb (by decide) (by injection e))); have HG4 := Aside0.mk hgb4; clear hgb4 ho4 hb4 hg4 hat4) | (refine goes_ Try.func30 (by kernel_rfl) rfl #[.agg #[.int .u64 x.f0, .int .u64 x.f1]] (by rfl) rfl rfl (by simp only [List.map_toArray, List.map_cons, List.map_nil]; rfl) ?_; refine (in_c _ _ _).mono ?_; rintro e w3 ⟨rfl, hb⟩; refine ⟨_, rfl, ?_⟩; have HS3 := Aside0.mk (HS.out.below hb); have HB3 := Aside0.mk (below_step HB2.out hb); have HX3 := Aside0.mk (blk_below HX2.out hb); have cS3 := HS3.out.cellS; have cS3a := pw_cell_below (below_alloc (Below.refl w3.heap.size w3) (Obj.cells #[.int .u64 x.f0, .int .u64 x.f1] 71)) cS3; clear hb)))
        all_goals (go_wp2_with fail; go_meet; obtain ⟨gr', c', cur', h'⟩ := HS4.out _ rfl; exact ⟨gr', c', cur', ⟨h'⟩, ⟨blk_far HX4.out (blk_ne HX4.out HG4.out (by decide)) _⟩, ⟨HB4.out.setCell HS.out.g0 _⟩⟩)
      case rest =>
        obtain ⟨gr, c, cur, HS, HX2, HB⟩ := hcut
        obtain ⟨s, hs⟩ : ∃ s, s = sumL M := ⟨_, rfl⟩
        rw [← hs] at HS
        have hsb := sumL_bound M (by
          intro i hi
          have e := HM.out
          rw [e] at hi ⊢
          rw [getL_take L k i hi]
          rw [List.length_take] at hi
          exact HG.out i (by omega))
        rw [← hs] at hsb
        have HSM := Aside0.mk hs
        obtain ⟨hs0, hs1⟩ := hsb
        have hx := HX.out
        rw [← HXX.out] at hx
        obtain ⟨hx0, hx1, hx2⟩ := hx
        have hs2 : s ≤ 600000 := by omega
        have hsum : IntKind.u64.wrap (s + (x.f1 - x.f0)) = s + (x.f1 - x.f0) := by simp only [IntKind.wrap_u64]; omega
        have HS' := Aside0.mk (HS.out.below (below_drew1 (Below.refl _ _)))
        have cT := HS.out.cellT
        have fT := HS.out.frozS 1
        have cX0 := (blk_cell HX2.out 0).trans rfl
        have cX1 := (blk_cell HX2.out 1).trans rfl
        clear hst hxx hs hs1 HB2
        go_wp2
        go_region_with ((first | (go_at_call 30; refine (in_c _ _ _).mono ?_; rintro e w5 ⟨rfl, hb5⟩; have HS5 := Aside0.mk (HS'.out.below hb5); have cT5 := HS5.out.cellT; have fT5 := HS5.out.frozS 1) | (go_at_call 38; refine (size_c _ _ _ (by omega) (by omega) (by omega)).mono ?_; rintro e w6 ⟨rfl, hb6⟩; have HS6 := Aside0.mk (HS5.out.below hb6); have cT6 := HS6.out.cellT; have fT6 := HS6.out.frozS 1)))
        all_goals have HF := Aside0.mk (show L.take (k + 1) = M ++ [x] by rw [HT.out, ← HM.out, ← HXX.out])
        all_goals have HFS := Aside0.mk (show sumL (M ++ [x]) = s + (x.f1 - x.f0) by rw [sumL_append, ← HSM.out]; simp [sumL])
        all_goals
          have HS7 := Aside0.mk (HS6.out.setTot (s + (x.f1 - x.f0)))
          have HB7 := Aside0.mk ((below_step (below_step (below_drew1 HB.out) hb5) hb6).setCell (p := ⟨g, 1, none⟩) HS6.out.g0 (.int .u64 (s + (x.f1 - x.f0))))
          clear hb5 hb6 cT5 cT6 fT5 fT6 cT fT cX0 cX1 HS5 HS6 HS HS' HX2 hsum
          go_wp2
          go_roundw
          case rel => exact ⟨k + 1, by go_num, by omega, ⟨gr, c, cur, by rw [HF.out, HFS.out]; exact HS7.out, by have := HS7.out.lc; simp at this; omega⟩, HB7⟩
          case measure => simp [intOf]; omega
    · have hk' : k = L.length := by omega
      have HE' := Aside0.mk (show ∃ gr c cur, St wr w.heap.size g gr c cur L (sumL L) ∧ 1 ≤ c by have := HE.out; rwa [hk', List.take_length] at this)
      clear HE hk'
      go_wp2
      go_ret
      obtain ⟨gr, c, cur, h, hc⟩ := HE'.out
      exact ⟨g, gr, c, cur, rfl, h, hc, HB.out⟩
end Go.Proofs.Yticjdbdhnfmidaa.K
