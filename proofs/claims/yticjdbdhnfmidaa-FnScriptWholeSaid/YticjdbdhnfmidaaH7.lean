/-
  The walk of removeLast of a list of ranges.
-/
import Derived.Test.YticjdbdhnfmidaaH6
namespace Go.Proofs.Yticjdbdhnfmidaa.K
open Go.RowKit Go.Proofs.YticjdbdhnfmidaaW.PrintWords Go.Proofs.YticjdbdhnfmidaaW.PrintLast Go.Proofs.YticjdbdhnfmidaaW.PrintMore

theorem cl_set0 (L : List S56) : ∀ i, i < L.length → ∀ v : Int, (cl L).set (i * 2) (.int .u64 v) = cl (L.take i ++ ⟨v, (getL L i).f1⟩ :: L.drop (i + 1)) := by
  induction L with
  | nil => intro i h; simp at h
  | cons x r ih =>
    intro i h v
    cases i with
    | zero => simp [cl, getL]
    | succ i =>
      have := ih i (by simpa using h) v
      simp only [cl, Nat.succ_mul, List.set_cons_succ, List.take_succ_cons, List.cons_append, List.drop_succ_cons, getL, List.getD_cons_succ] at this ⊢
      rw [this]
theorem cl_set1 (L : List S56) : ∀ i, i < L.length → ∀ v : Int, (cl L).set (i * 2 + 1) (.int .u64 v) = cl (L.take i ++ ⟨(getL L i).f0, v⟩ :: L.drop (i + 1)) := by
  induction L with
  | nil => intro i h; simp at h
  | cons x r ih =>
    intro i h v
    cases i with
    | zero => simp [cl, getL]
    | succ i =>
      have := ih i (by simpa using h) v
      simp only [cl, Nat.succ_mul, List.set_cons_succ, List.take_succ_cons, List.cons_append, List.drop_succ_cons, getL, List.getD_cons_succ] at this ⊢
      rw [← this]
/-- A cell of the array is stored. -/
theorem St.setR {w : World} {base g gr c : Nat} {cur : Array Value} {L L' : List S56} {tot : Int} (h : St w base g gr c cur L tot) (j : Nat) (v : Int) (hl : L'.length = L.length) (hj : (cl L).set j (.int .u64 v) = cl L') :
    St (w.setCell ⟨gr, j, none⟩ (.int .u64 v)) base g gr c (cur.setIfInBounds j (.int .u64 v)) L' tot where
  gb := by rw [hl]; exact blk_far h.gb h.ne _
  rb := blk_set h.rb j _
  g0 := h.g0
  r0 := h.r0
  lc := by rw [hl]; exact h.lc
  cm := h.cm
  cs := by rw [Array.size_setIfInBounds]; exact h.cs
  ct := by
    rw [hl, ← hj, ← h.ct, Array.toList_setIfInBounds, List.take_set]
theorem St.far {w : World} {base g gr c : Nat} {cur : Array Value} {L : List S56} {tot : Int} (h : St w base g gr c cur L tot) {p : Addr} (h1 : g ≠ p.block) (h2 : gr ≠ p.block) (v : Value) : St (w.setCell p v) base g gr c cur L tot :=
  ⟨blk_far h.gb h1 v, blk_far h.rb h2 v, h.g0, h.r0, h.lc, h.cm, h.cs, h.ct⟩
theorem St.drew {w : World} {base g gr c : Nat} {cur : Array Value} {L : List S56} {tot : Int} (h : St w base g gr c cur L tot) : St w.drew base g gr c cur L tot := h.below (below_drew1 (Below.refl _ _))
/-- The slice is cut at its end. -/
theorem St.cut {w : World} {base g gr c : Nat} {cur : Array Value} {L : List S56} {tot : Int} (h : St w base g gr c cur L tot) (k : Nat) (hk : k ≤ L.length) :
    St (w.setCell ⟨g, 0, none⟩ (.slice (some ⟨gr, 0, none⟩) k c)) base g gr c cur (L.take k) tot where
  gb := by
    rw [List.length_take, Nat.min_eq_left hk]
    simpa using blk_set h.gb 0 (.slice (some ⟨gr, 0, none⟩) k c)
  rb := blk_far h.rb (fun e => h.ne e.symm) _
  g0 := h.g0
  r0 := h.r0
  lc := by rw [List.length_take]; have := h.lc; omega
  cm := h.cm
  cs := h.cs
  ct := by
    rw [List.length_take, Nat.min_eq_left hk, ← cl_take, ← h.ct, List.take_take, Nat.min_eq_left (by omega)]

set_option maxHeartbeats 2000000 in
theorem removeLast_some {w : World} {base g gr c : Nat} {cur : Array Value} {L : List S56} {tot : Int} (hs : St w base g gr c cur L tot) (hf : fitL L = true) (m : Nat) (hm : L.length = m + 1) (ht0 : 0 ≤ tot) (ht1 : tot ≤ 600000)
    (n : Int) (n0 : 0 ≤ n) (n1 : n ≤ 1000) (hn : n < (getL L m).f1 - (getL L m).f0) (hnt : n ≤ tot) :
    Calls Try.prog 35 #[.pointer (some ⟨g, 0, none⟩), .int .u64 n] w fun e w' => ∃ cur', e = .returned (.agg #[.int .u64 ((getL L m).f1 - n), .int .u64 (getL L m).f1]) ∧ St w' base g gr c cur' (L.take m ++ [⟨(getL L m).f0, (getL L m).f1 - n⟩]) (tot - n) ∧ Below base w w' := by
  have hfi := fitL_get hf m (by omega)
  obtain ⟨f0, f1, f2⟩ := hfi
  obtain ⟨x, hx⟩ : ∃ x, x = getL L m := ⟨_, rfl⟩
  have hl := fitL_len hf
  have hml : m ≤ 599 := by omega
  have cS := hs.cellS
  have c0 := hs.cell0 m (by omega)
  have c1 := hs.cell1 m (by omega)
  obtain ⟨N, hN⟩ : ∃ N, N = L.length := ⟨_, rfl⟩
  rw [← hN] at cS hm
  rw [← hx] at c0 c1 f0 f1 f2 hn
  rw [← hx]
  have HX := Aside0.mk hx
  have HM := Aside0.mk hm
  have HS := Aside0.mk hs
  have HF := Aside0.mk hf
  have HN := Aside0.mk hN
  have i0 : (0 : Int) ≤ (m : Int) := by omega
  have i1 : (m : Int) < (N : Int) := by omega
  have i2 : IntKind.i64.wrap ((N : Int) - 1) = (m : Int) := by simp only [IntKind.wrap_i64]; omega
  have i3 : ((N : Int) == 0) = false := beq_eq_false_iff_ne.2 (by omega)
  clear hs hf hx hm hl hN
  have hb1 : Below w.heap.size w (w.alloc (.cells #[.int .u64 0, .int .u64 0] 71)) := below_alloc (Below.refl _ _) _
  have hx1 : (w.alloc (.cells #[.int .u64 0, .int .u64 0] 71)).heap[w.heap.size]? = some (.cells #[.int .u64 0, .int .u64 0] 71 (0, 0)) := blk_new _ _
  replace cS := pw_cell_below hb1 cS
  replace c0 := pw_cell_below hb1 c0
  replace c1 := pw_cell_below hb1 c1
  go_enter Try.func35, Try.ntmps35
  go_wp2
  generalize (w.alloc (.cells #[.int .u64 0, .int .u64 0] 71)) = w1 at hb1 hx1 cS c0 c1 ⊢
  have HS1 := Aside0.mk (HS.out.below hb1)
  have HB1 := Aside0.mk hb1
  have HX1 := Aside0.mk hx1
  have nS := World.new_ne w1 _ cS
  have n0' := World.new_ne w1 _ c0
  clear hb1 hx1
  go_region_held3 (fun w' => w'.cell? ⟨g, 0, none⟩ = some (.slice (some ⟨gr, 0, none⟩) N c) ∧ w'.cell? ⟨gr, m * 2, none⟩ = some (.int .u64 x.f0) ∧ w'.cell? ⟨gr, m * 2 + 1, none⟩ = some (.int .u64 x.f1)) (go_keep) (fail)
  go_wp2_with fail
  have hb2 : Below w1.heap.size w1 (w1.alloc (.cells #[.int .u64 x.f0, .int .u64 x.f1] 71)).drew := below_drew1 (below_alloc (Below.refl _ _) _)
  have hx2 : (w1.alloc (.cells #[.int .u64 x.f0, .int .u64 x.f1] 71)).drew.heap[w1.heap.size]? = some (.cells #[.int .u64 x.f0, .int .u64 x.f1] 71 (0, 0)) := blk_new _ _
  generalize (w1.alloc (.cells #[.int .u64 x.f0, .int .u64 x.f1] 71)).drew = w2 at hb2 hx2 ⊢
  refine (size_c _ _ _ f0 f1 f2).mono ?_
  rintro e w3 ⟨rfl, hb3⟩
  have hlt1 : w.heap.size < w1.heap.size := blk_lt HX1.out
  have hgr : gr < w.heap.size := blk_lt HS.out.rb
  have hgg : g < w.heap.size := blk_lt HS.out.gb
  have HS3 := Aside0.mk ((HS1.out.below hb2).below hb3)
  have HB3 := Aside0.mk (below_step (below_step HB1.out hb2) hb3)
  have HX3 := Aside0.mk (blk_below (blk_below HX1.out hb2) hb3)
  have HY3 := Aside0.mk (blk_below hx2 hb3)
  have cB0 := (blk_cell HY3.out 0).trans rfl
  have cB1 := (blk_cell HY3.out 1).trans rfl
  clear hb2 hb3 hx2 cS c0 c1 nS n0'
  have hdec : decide (n < x.f1 - x.f0) = true := decide_eq_true hn
  go_wp2_with fail
  refine (sub_c _ _ _ (by omega) f2 n0).mono ?_
  rintro e w4 ⟨rfl, hb4⟩
  have HS4 := Aside0.mk (HS3.out.below hb4)
  have HB4 := Aside0.mk (below_step HB3.out hb4)
  have HX4 := Aside0.mk (blk_below HX3.out hb4)
  have HY4 := Aside0.mk (blk_below HY3.out hb4)
  clear hb4 cB0 cB1
  go_upto_region 7 with fail
  have hb5 : Below w4.heap.size w4 (w4.alloc (.cells #[.int .u64 (x.f1 - n)] 69)) := below_alloc (Below.refl _ _) _
  have hx5 : (w4.alloc (.cells #[.int .u64 (x.f1 - n)] 69)).heap[w4.heap.size]? = some (.cells #[.int .u64 (x.f1 - n)] 69 (0, 0)) := blk_new _ _
  generalize (w4.alloc (.cells #[.int .u64 (x.f1 - n)] 69)) = w5 at hb5 hx5 ⊢
  have hlt4 : w.heap.size < w4.heap.size := blk_lt HX4.out
  have hlt5 : w1.heap.size < w4.heap.size := blk_lt HY4.out
  have HS5 := Aside0.mk (HS4.out.below hb5)
  have HB5 := Aside0.mk (below_step HB4.out hb5)
  have HX5 := Aside0.mk (blk_below HX4.out hb5)
  have HY5 := Aside0.mk (blk_below HY4.out hb5)
  have HZ5 := Aside0.mk hx5
  clear hb5 hx5
  go_cut [] (fun wx => ∃ cur', Aside0 (St wx base g gr c cur' (L.take m ++ [⟨x.f0, x.f1 - n⟩]) tot) ∧ Aside0 (Below base w wx) ∧ Aside0 (wx.heap[w.heap.size]? = some (.cells #[.int .u64 0, .int .u64 0] 71 (0, 0))) ∧ Aside0 (wx.heap[w1.heap.size]? = some (.cells #[.int .u64 x.f0, .int .u64 x.f1] 71 (0, 0))) ∧ Aside0 (wx.heap[w4.heap.size]? = some (.cells #[.int .u64 (x.f1 - n)] 69 (0, 0))))
  case first =>
    have cS := HS5.out.cellS
    rw [← HN.out] at cS
    have c1 := HS5.out.cell1 m (by have := HM.out; have := HN.out; omega)
    have fR := HS5.out.frozR (m * 2 + 1)
    have cZ := (blk_cell HZ5.out 0).trans rfl
    have nG : gr ≠ g := fun e => HS5.out.ne e.symm
    have nZ : gr ≠ w4.heap.size := by omega
    go_region_held3 (fun w' => w'.cell? ⟨g, 0, none⟩ = some (.slice (some ⟨gr, 0, none⟩) N c) ∧ w'.cell? ⟨w4.heap.size, 0, none⟩ = some (.int .u64 (x.f1 - n))) (go_keep) (fail)
    go_wp2_with fail
    go_meet
    have hlm : L.length = m + 1 := by have := HM.out; have := HN.out; omega
    refine ⟨_, ⟨(HS5.out.setR (m * 2 + 1) (x.f1 - n) (L' := L.take m ++ [⟨x.f0, x.f1 - n⟩]) ?_ ?_).drew⟩, ⟨below_drew1 ((HB5.out.mono (by have := HS.out.r0; omega)).setCell HS5.out.r0 _)⟩, ⟨blk_drew (blk_far HX5.out (Nat.ne_of_gt hgr) _)⟩, ⟨blk_drew (blk_far HY5.out (by show w1.heap.size ≠ gr; omega) _)⟩, ⟨blk_drew (blk_far HZ5.out (by show w4.heap.size ≠ gr; omega) _)⟩⟩
    · rw [List.length_append, List.length_take]; simp; omega
    · rw [cl_set1 L m (by omega), ← HX.out, List.drop_eq_nil_of_le (by omega)]
  case rest =>
    obtain ⟨cur', HS6, HB6, HX6, HY6, HZ6⟩ := hcut
    have cT := HS6.out.cellT
    have fT := HS6.out.frozS 1
    have cZ := (blk_cell HZ6.out 0).trans rfl
    have cY1 := (blk_cell HY6.out 1).trans rfl
    have cX0 := (blk_cell HX6.out 0).trans rfl
    have cX1 := (blk_cell HX6.out 1).trans rfl
    have fX0 := blk_frozen HX6.out 0
    have fX1 := blk_frozen HX6.out 1
    have n1' : g ≠ w.heap.size := by omega
    have n2' : g ≠ w1.heap.size := by omega
    have n3' : g ≠ w4.heap.size := by omega
    have hsub : IntKind.u64.wrap (tot - n) = tot - n := by simp only [IntKind.wrap_u64]; omega
    go_wp2
    refine bodyPost_ret (results_cell_row rfl _ _ w.heap.size 71 #[.int .u64 (x.f1 - n), .int .u64 x.f1] (0, 0) _ rfl ?_ Try.underlying71 rfl (by kernel_rfl)) rfl ?_
    · simpa using blk_set (blk_set (blk_far (p := ⟨g, 1, none⟩) HX6.out (Ne.symm n1') (.int .u64 (tot - n))) 0 (.int .u64 (x.f1 - n))) 1 (.int .u64 x.f1)
    · have hbw : base ≤ w.heap.size := by have := HS.out.r0; omega
      refine ⟨cur', rfl, ((HS6.out.setTot (tot - n)).far n1' (Nat.ne_of_lt hgr) _).far n1' (Nat.ne_of_lt hgr) _, ((HB6.out.setCell HS.out.g0 _).setCell hbw _).setCell hbw _⟩

set_option maxHeartbeats 2000000 in
theorem removeLast_all {w : World} {base g gr c : Nat} {cur : Array Value} {L : List S56} {tot : Int} (hs : St w base g gr c cur L tot) (hf : fitL L = true) (m : Nat) (hm : L.length = m + 1) (ht0 : 0 ≤ tot) (ht1 : tot ≤ 600000)
    (n : Int) (n0 : 0 ≤ n) (n1 : n ≤ 1000) (hn : ¬ n < (getL L m).f1 - (getL L m).f0) (hnt : (getL L m).f1 - (getL L m).f0 ≤ tot) :
    Calls Try.prog 35 #[.pointer (some ⟨g, 0, none⟩), .int .u64 n] w fun e w' => e = .returned (.agg #[.int .u64 (getL L m).f0, .int .u64 (getL L m).f1]) ∧ St w' base g gr c cur (L.take m) (tot - ((getL L m).f1 - (getL L m).f0)) ∧ Below base w w' := by
  have hfi := fitL_get hf m (by omega)
  obtain ⟨f0, f1, f2⟩ := hfi
  obtain ⟨x, hx⟩ : ∃ x, x = getL L m := ⟨_, rfl⟩
  have hl := fitL_len hf
  have hml : m ≤ 599 := by omega
  have cS := hs.cellS
  have c0 := hs.cell0 m (by omega)
  have c1 := hs.cell1 m (by omega)
  obtain ⟨N, hN⟩ : ∃ N, N = L.length := ⟨_, rfl⟩
  rw [← hN] at cS hm
  rw [← hx] at c0 c1 f0 f1 f2 hn hnt
  rw [← hx]
  have HX := Aside0.mk hx
  have HM := Aside0.mk hm
  have HS := Aside0.mk hs
  have HF := Aside0.mk hf
  have HN := Aside0.mk hN
  have i0 : (0 : Int) ≤ (m : Int) := by omega
  have i1 : (m : Int) < (N : Int) := by omega
  have i2 : IntKind.i64.wrap ((N : Int) - 1) = (m : Int) := by simp only [IntKind.wrap_i64]; omega
  have i3 : ((N : Int) == 0) = false := beq_eq_false_iff_ne.2 (by omega)
  clear hs hf hx hm hl hN
  have hb1 : Below w.heap.size w (w.alloc (.cells #[.int .u64 0, .int .u64 0] 71)) := below_alloc (Below.refl _ _) _
  have hx1 : (w.alloc (.cells #[.int .u64 0, .int .u64 0] 71)).heap[w.heap.size]? = some (.cells #[.int .u64 0, .int .u64 0] 71 (0, 0)) := blk_new _ _
  replace cS := pw_cell_below hb1 cS
  replace c0 := pw_cell_below hb1 c0
  replace c1 := pw_cell_below hb1 c1
  go_enter Try.func35, Try.ntmps35
  go_wp2
  generalize (w.alloc (.cells #[.int .u64 0, .int .u64 0] 71)) = w1 at hb1 hx1 cS c0 c1 ⊢
  have HS1 := Aside0.mk (HS.out.below hb1)
  have HB1 := Aside0.mk hb1
  have HX1 := Aside0.mk hx1
  have nS := World.new_ne w1 _ cS
  have n0' := World.new_ne w1 _ c0
  clear hb1 hx1
  go_region_held3 (fun w' => w'.cell? ⟨g, 0, none⟩ = some (.slice (some ⟨gr, 0, none⟩) N c) ∧ w'.cell? ⟨gr, m * 2, none⟩ = some (.int .u64 x.f0) ∧ w'.cell? ⟨gr, m * 2 + 1, none⟩ = some (.int .u64 x.f1)) (go_keep) (fail)
  go_wp2_with fail
  have hb2 : Below w1.heap.size w1 (w1.alloc (.cells #[.int .u64 x.f0, .int .u64 x.f1] 71)).drew := below_drew1 (below_alloc (Below.refl _ _) _)
  have hx2 : (w1.alloc (.cells #[.int .u64 x.f0, .int .u64 x.f1] 71)).drew.heap[w1.heap.size]? = some (.cells #[.int .u64 x.f0, .int .u64 x.f1] 71 (0, 0)) := blk_new _ _
  generalize (w1.alloc (.cells #[.int .u64 x.f0, .int .u64 x.f1] 71)).drew = w2 at hb2 hx2 ⊢
  refine (size_c _ _ _ f0 f1 f2).mono ?_
  rintro e w3 ⟨rfl, hb3⟩
  have hlt1 : w.heap.size < w1.heap.size := blk_lt HX1.out
  have hgr : gr < w.heap.size := blk_lt HS.out.rb
  have hgg : g < w.heap.size := blk_lt HS.out.gb
  have HS3 := Aside0.mk ((HS1.out.below hb2).below hb3)
  have HB3 := Aside0.mk (below_step (below_step HB1.out hb2) hb3)
  have HX3 := Aside0.mk (blk_below (blk_below HX1.out hb2) hb3)
  have HY3 := Aside0.mk (blk_below hx2 hb3)
  clear hb2 hb3 hx2 cS c0 c1 nS n0'
  have hdec : decide (n < x.f1 - x.f0) = false := decide_eq_false (by omega)
  go_upto_region 10 with fail
  go_cut [] (fun wx => Aside0 (St wx base g gr c cur (L.take m) tot) ∧ Aside0 (Below base w wx) ∧ Aside0 (wx.heap[w.heap.size]? = some (.cells #[.int .u64 0, .int .u64 0] 71 (0, 0))) ∧ Aside0 (wx.heap[w1.heap.size]? = some (.cells #[.int .u64 x.f0, .int .u64 x.f1] 71 (0, 0))))
  case first =>
    have cS := HS3.out.cellS
    rw [← HN.out] at cS
    have fS := HS3.out.frozS 0
    have hmc : (m : Int) ≤ (c : Int) := by have := HS3.out.lc; have := HN.out; omega
    go_region
    go_wp2_with fail
    go_meet
    have hbw : base ≤ w.heap.size := by have := HS.out.r0; omega
    refine ⟨⟨(HS3.out.cut m (by have := HM.out; have := HN.out; omega)).drew⟩, ⟨below_drew1 ((HB3.out.mono hbw).setCell HS.out.g0 _)⟩, ⟨blk_drew (blk_far HX3.out (by show w.heap.size ≠ g; omega) _)⟩, ⟨blk_drew (blk_far HY3.out (by show w1.heap.size ≠ g; omega) _)⟩⟩
  case rest =>
    obtain ⟨HS6, HB6, HX6, HY6⟩ := hcut
    have cT := HS6.out.cellT
    have fT := HS6.out.frozS 1
    have cY0 := (blk_cell HY6.out 0).trans rfl
    have cY1 := (blk_cell HY6.out 1).trans rfl
    have cX0 := (blk_cell HX6.out 0).trans rfl
    have cX1 := (blk_cell HX6.out 1).trans rfl
    have fX0 := blk_frozen HX6.out 0
    have fX1 := blk_frozen HX6.out 1
    have n1' : g ≠ w.heap.size := by omega
    have n2' : g ≠ w1.heap.size := by omega
    have hsub : IntKind.u64.wrap (tot - (x.f1 - x.f0)) = tot - (x.f1 - x.f0) := by simp only [IntKind.wrap_u64]; omega
    go_wp2
    refine bodyPost_ret (results_cell_row rfl _ _ w.heap.size 71 #[.int .u64 x.f0, .int .u64 x.f1] (0, 0) _ rfl ?_ Try.underlying71 rfl (by kernel_rfl)) rfl ?_
    · simpa using blk_set (blk_set (blk_far (p := ⟨g, 1, none⟩) HX6.out (Ne.symm n1') (.int .u64 (tot - (x.f1 - x.f0)))) 0 (.int .u64 x.f0)) 1 (.int .u64 x.f1)
    · have hbw : base ≤ w.heap.size := by have := HS.out.r0; omega
      refine ⟨rfl, ((HS6.out.setTot (tot - (x.f1 - x.f0))).far n1' (Nat.ne_of_lt hgr) _).far n1' (Nat.ne_of_lt hgr) _, ((HB6.out.setCell HS.out.g0 _).setCell hbw _).setCell hbw _⟩
end Go.Proofs.Yticjdbdhnfmidaa.K
