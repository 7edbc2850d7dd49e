/- The walks of the thin package's functions of lists. (Lines that the kit's print has written for this claim, grouped by assemble.py; hand contracts take the place of what it does not print.) -/
import Derived.Test.YticjdbdhnfmidaaKB
import Derived.Test.YticjdbdhnfmidaaKC
import Derived.Test.YticjdbdhnfmidaaHB
namespace Go.Proofs.Yticjdbdhnfmidaa.K
open Go.RowKit Go.Proofs.YticjdbdhnfmidaaW.PrintWords Go.Proofs.YticjdbdhnfmidaaW.PrintLast Go.Proofs.YticjdbdhnfmidaaW.PrintMore
attribute [local go_sem] max2_int min2_int max_two min_two max_three min_three max_four min_four   -- for this text's walks alone
set_option linter.unusedVariables false
set_option linter.unusedSimpArgs false

/-! ### impl_Add: function 7 -/
def impl_Add.f (k : Nat) (l0 : List (S35)) (a1_0 : Int) (a1_1 : Int) : Option ((List (S35)) × Int) := (impl_given.f k l0).bind fun t161 => ((mranges_Add.f t161 a1_0 a1_1).bind fun bt164 => ((impl_told.f k bt164.1).bind fun t168 => (some (t168, bt164.2))))
theorem impl_Add.mono : ∀ a0 a1 a2 k, LeO (impl_Add.f k a0 a1 a2) (impl_Add.f (k + 1) a0 a1 a2) := by
  intro a0 a1 a2 k
  unfold impl_Add.f
  repeat' first
      | (with_reducible exact impl_given.mono _ _)
      | (with_reducible exact impl_told.mono _ _)
      | (with_reducible exact LeO.refl _)
      | (with_reducible exact LeO.none _)
      | (with_reducible refine LeO.ite ?_ ?_)
      | (with_reducible refine LeO.bind ?_ (fun _ => ?_))
      | exact impl_given.mono _ _
      | exact impl_told.mono _ _
      | exact LeO.none _
      | refine LeO.ite ?_ ?_
      | refine LeO.bind ?_ (fun _ => ?_)
def impl_Add.T1 : Bool × List (List Nat × List Nat) := (true, [([], []), ([0], [0]), ([], []), ([1, 2, 1], [1, 2]), ([3], [3]), ([4], [4]), ([4], [4]), ([5, 3, 0, 1, 2, 3, 4, 5], [5]), ([6, 7, 0, 1, 2, 3, 4, 5, 6, 7], [6])])
def impl_Add.B1 : List Nat := [0, 1, 0, 7, 15, 31, 31, 63, 255]
theorem impl_Add.tab1 : rtab .any (opsOf Try.f7 1) = impl_Add.T1 := by kernel_rfl
theorem impl_Add.bits1 : waitsOk impl_Add.T1.2 impl_Add.B1 = true := by kernel_rfl
set_option maxHeartbeats 8000000 in
set_option maxRecDepth 100000 in
theorem impl_Add.calls (k : Nat) (A0 : Option Addr) (c0 : Nat) (l0 : List (S35)) (a1_0 : Int) (a1_1 : Int) (r1 : List (S35)) (r2 : Int) (w : World) (hr0 : Kd.C k35 w A0 l0.length l0) (hc0 : l0.length ≤ c0) (h : impl_Add.f k l0 a1_0 a1_1 = some (r1, r2)) :
    Calls Try.prog 7 #[.slice A0 l0.length c0, .agg #[.int .u64 a1_0, .int .u64 a1_1]] w fun e w' => ∃ v0_ : Value, e = .returned (.tuple #[v0_, .int .u64 r2]) ∧ Kd.R k35 35 w' w.heap.size (fun _ => True) v0_ r1 ∧ Below w.heap.size w w' := by
  have hu35 := Try.underlying35
  have HR0 := Aside0.mk hr0
  have HC0 := Aside0.mk hc0
  clear hr0 hc0
  have HB := Aside0.mk (Below.refl w.heap.size w)
  have H : ((impl_given.f k l0).bind fun t161 => ((mranges_Add.f t161 a1_0 a1_1).bind fun bt164 => ((impl_told.f k bt164.1).bind fun t168 => (some (t168, bt164.2))))) = some (r1, r2) := h
  clear h
  replace H := Option.bind_eq_some_iff.mp H
  obtain ⟨t161, A30, H⟩ := H
  replace H : ((mranges_Add.f t161 a1_0 a1_1).bind fun bt164 => ((impl_told.f k bt164.1).bind fun t168 => (some (t168, bt164.2)))) = some (r1, r2) := H
  have A3 := Aside0.mk A30
  clear A30
  replace H := Option.bind_eq_some_iff.mp H
  obtain ⟨⟨t164, t167⟩, A40, H⟩ := H
  replace H : ((impl_told.f k t164).bind fun t168 => (some (t168, t167))) = some (r1, r2) := H
  have A4 := Aside0.mk A40
  clear A40
  replace H := Option.bind_eq_some_iff.mp H
  obtain ⟨t168, A50, H⟩ := H
  replace H : (some (t168, t167)) = some (r1, r2) := H
  have A5 := Aside0.mk A50
  clear A50
  simp only [Option.some.injEq, Prod.mk.injEq] at H
  obtain ⟨rfl, rfl⟩ := H
  go_enter Try.func7, Try.ntmps7
  try go_wp2_with (first | ((with_reducible refine gate_dst (N := 3) rfl ?_); refine box_event ?hg (N := 3) ?hd (cs := #[.int .u64 a1_0, .int .u64 a1_1]) (t := 35) ?hr ?_; (case hd => rfl); (case hg => rfl); (case hr => first | (go_simp; done) | (go_simp; rfl)); intro gb160 hg w6 hbox hb; have n0_ := Aside0.mk (below_step (by repeat (first | (with_reducible first | exact HB.out | apply below_alloc | apply pw_below_drewN | apply below_drew1) | exact HB.out)) hb); have n1_ := Aside0.mk (hbox); have n2_ := Aside0.mk ((by rw [hg]; exact (below_size (by repeat (first | (with_reducible first | exact HB.out | apply below_alloc | apply pw_below_drewN | apply below_drew1) | exact HB.out))) : w.heap.size ≤ gb160)); have n3_ := Aside0.mk ((by rw [hg]; exact (below_size (by repeat (first | (with_reducible first | exact HB.out | apply below_alloc | apply pw_below_drewN | apply below_drew1) | exact HB.out))) : w.heap.size ≤ gb160)); clear HB; have HB := n0_; have BK160 := n1_; have GW160 := n2_; have GE160 := n3_; clear n0_ n1_ n2_ n3_; clear hb hbox hg))
  have n0_ := Aside0.mk (blk_drew BK160.out)
  have n1_ := Aside0.mk (below_drew1 HB.out)
  clear BK160
  clear HB
  have BK160 := n0_
  have HB := n1_
  clear n0_ n1_
  refine start_ (n := 9) (S := fun w' => w'.cell? ⟨gb160, 0, none⟩ = some (.int .u64 a1_0) ∧ w'.cell? ⟨gb160, 1, none⟩ = some (.int .u64 a1_1)) (ds := []) #[false, false, false, false, false, false, false, false, false] (by kernel_rfl) rfl rfl ⟨(blk_cell BK160.out 0).trans rfl, (blk_cell BK160.out 1).trans rfl⟩ (fun hHeld => ?_); refine with_tabW impl_Add.tab1 impl_Add.bits1 (fun HT_ HW_ => ?_)
  generalize w6.drew = w7 at BK160 HB hHeld ⊢
  refine pure_ (i := 0) (N := some 9) (v := ?_) (a' := ?_) #[true, false, false, false, false, false, false, false, false] rfl rfl (any_of HT_.out (by kernel_rfl)) (fun _ _ _ h => h) (Or.inl ⟨by rfl, ?_⟩) ?_ ?_
  rotate_left
  · intro w'
    go_simp
    with_reducible rfl
  rotate_left
  · simp only [Act.put, List.setIfInBounds_toArray, List.set_cons_zero, List.set_cons_succ, i64_w, i32_w]
    rfl
  refine take_ (i := 2) (N := some 11) (v := ?_) (a' := ?_) #[true, false, true, false, false, false, false, false, false] rfl rfl (take_ofW HT_.out HW_.out (by kernel_rfl)) (fun _ _ _ h => h) (Or.inl ⟨by rfl, ?_⟩) hHeld ?_ ?_
  rotate_left
  · rintro w' ⟨s0, s1⟩
    go_simp
    with_reducible rfl
  rotate_left
  · simp only [Act.put, List.setIfInBounds_toArray, List.set_cons_zero, List.set_cons_succ, i64_w, i32_w]
    rfl
  refine one_ (i := 1) (N := some 10) #[true, true, true, false, false, false, false, false, false] rfl rfl (one_of HT_.out (by kernel_rfl)) (by decide) (fun K hK => ?_)
  refine goes_ Try.func20 (by kernel_rfl) rfl #[.slice A0 l0.length c0] (by rfl) rfl rfl (by (try simp only [List.map_toArray, List.map_cons, List.map_nil]); first | done | rfl | (simp only [List.length_drop, List.length_take]; rfl)) ?_
  with_reducible refine (impl_given.calls k _ _ l0 t161 _ ?side1 ?side2 A3.out).mono ?_
  (case side1 => repeat (first | exact (Kd.C_below HR0.out HB.out) | (with_reducible refine Kd.C_alloc ?_ _) | (with_reducible refine Kd.C_drewN ?_ _) | (with_reducible refine Kd.C_drew ?_)))
  (case side2 => exact HC0.out)
  rintro e w8 ⟨v162, rfl, ho0, hb⟩
  refine ⟨_, rfl, ?_⟩
  have n0_ := Aside0.mk (Kd.R_lower ho0 (below_size (by repeat (first | (with_reducible first | exact HB.out | apply below_alloc | apply pw_below_drewN | apply below_drew1 | refine below_set ?_ GE160.out) | exact HB.out))))
  have n1_ := Aside0.mk (blk_below (g := gb160) (o := .cells #[.int .u64 a1_0, .int .u64 a1_1] 35 (0, 0)) (by (with_reducible repeat (first | refine blk_drewN ?_ _ | refine blk_drew ?_ | refine blk_alloc ?_ _)); exact BK160.out) hb)
  have n2_ := Aside0.mk (below_step (by repeat (first | (with_reducible first | exact HB.out | apply below_alloc | apply pw_below_drewN | apply below_drew1 | refine below_set ?_ GE160.out) | exact HB.out)) hb)
  clear BK160
  clear HB
  have HO163 := n0_
  have BK160 := n1_
  have HB := n2_
  clear n0_ n1_ n2_
  (try clear hb)
  (try clear hb2)
  (try clear hk)
  (try clear hi)
  (try clear ho0)
  obtain ⟨Ao9, co9, eo9⟩ := Kd.R_slice HO163.out
  (first | subst eo9 | (injection eo9 with f1_ f2_ f3_; have f4_ := f1_.symm; have f5_ := f3_.symm; clear f1_ f2_ f3_; subst f4_; subst f5_))
  refine hK.out _ _ ⟨(blk_cell BK160.out 0).trans rfl, (blk_cell BK160.out 1).trans rfl⟩ (fun hHeld => ?_)
  clear hK K
  refine norm_ (a' := ?_) ?_ ?_
  rotate_left
  · show Act.put _ (some 10) _ = _
    simp only [Act.put, List.setIfInBounds_toArray, List.set_cons_zero, List.set_cons_succ, i64_w, i32_w]
    rfl
  refine one_ (i := 3) (N := some 12) #[true, true, true, true, false, false, false, false, false] rfl rfl (one_of HT_.out (by kernel_rfl)) (by decide) (fun K hK => ?_)
  refine goes_ Try.func19 (by kernel_rfl) rfl #[.slice Ao9 t161.length co9, .agg #[.int .u64 a1_0, .int .u64 a1_1]] (by rfl) rfl rfl (by (try simp only [List.map_toArray, List.map_cons, List.map_nil]); first | done | rfl | (simp only [List.length_drop, List.length_take]; rfl)) ?_
  with_reducible refine (mranges_Add.calls _ _ t161 a1_0 a1_1 t164 t167 _ ?side1 ?side2 A4.out).mono ?_
  (case side1 => repeat (first | exact (Kd.R_reads' HO163.out).2.2 | (with_reducible refine Kd.C_alloc ?_ _) | (with_reducible refine Kd.C_drewN ?_ _) | (with_reducible refine Kd.C_drew ?_)))
  (case side2 => exact (Kd.R_reads' HO163.out).2.1)
  rintro e w10 ⟨v165, rfl, ho0, hb⟩
  refine ⟨_, rfl, ?_⟩
  have n0_ := Aside0.mk (Kd.R_elder' (by (with_reducible repeat (first | apply Kd.R_alloc | apply Kd.R_drewN | apply Kd.R_drew)); exact HO163.out) (Kd.R_base ho0) hb)
  have n1_ := Aside0.mk (Kd.R_lower (Kd.R_new' ho0 (Kd.R_lt (by (with_reducible repeat (first | apply Kd.R_alloc | apply Kd.R_drewN | apply Kd.R_drew)); exact HO163.out))) (below_size (by repeat (first | (with_reducible first | exact HB.out | apply below_alloc | apply pw_below_drewN | apply below_drew1 | refine below_set ?_ GE160.out) | exact HB.out))))
  have n2_ := Aside0.mk (blk_below (g := gb160) (o := .cells #[.int .u64 a1_0, .int .u64 a1_1] 35 (0, 0)) (by (with_reducible repeat (first | refine blk_drewN ?_ _ | refine blk_drew ?_ | refine blk_alloc ?_ _)); exact BK160.out) hb)
  have n3_ := Aside0.mk (below_step (by repeat (first | (with_reducible first | exact HB.out | apply below_alloc | apply pw_below_drewN | apply below_drew1 | refine below_set ?_ GE160.out) | exact HB.out)) hb)
  clear HO163
  clear BK160
  clear HB
  have HO163 := n0_
  have HO166 := n1_
  have BK160 := n2_
  have HB := n3_
  clear n0_ n1_ n2_ n3_
  (try clear hb)
  (try clear hb2)
  (try clear hk)
  (try clear hi)
  (try clear ho0)
  refine hK.out _ _ ⟨(blk_cell BK160.out 0).trans rfl, (blk_cell BK160.out 1).trans rfl⟩ (fun hHeld => ?_)
  clear hK K
  refine norm_ (a' := ?_) ?_ ?_
  rotate_left
  · show Act.put _ (some 12) _ = _
    simp only [Act.put, List.setIfInBounds_toArray, List.set_cons_zero, List.set_cons_succ, i64_w, i32_w]
    rfl
  refine pure_ (i := 4) (N := some 8) (v := ?_) (a' := ?_) #[true, true, true, true, true, false, false, false, false] rfl rfl (any_of HT_.out (by kernel_rfl)) (fun _ _ _ h => h) (Or.inl ⟨by rfl, ?_⟩) ?_ ?_
  rotate_left
  · intro w'
    go_simp
    with_reducible rfl
  rotate_left
  · simp only [Act.put, List.setIfInBounds_toArray, List.set_cons_zero, List.set_cons_succ, i64_w, i32_w]
    rfl
  refine pure_ (i := 5) (N := some 13) (v := ?_) (a' := ?_) #[true, true, true, true, true, true, false, false, false] rfl rfl (any_of HT_.out (by kernel_rfl)) (fun _ _ _ h => h) (Or.inl ⟨by rfl, ?_⟩) ?_ ?_
  rotate_left
  · intro w'
    go_simp
    with_reducible rfl
  rotate_left
  · simp only [Act.put, List.setIfInBounds_toArray, List.set_cons_zero, List.set_cons_succ, i64_w, i32_w]
    rfl
  refine pure_ (i := 6) (N := some 14) (v := ?_) (a' := ?_) #[true, true, true, true, true, true, true, false, false] rfl rfl (any_of HT_.out (by kernel_rfl)) (fun _ _ _ h => h) (Or.inl ⟨by rfl, ?_⟩) ?_ ?_
  rotate_left
  · intro w'
    go_simp
    with_reducible rfl
  rotate_left
  · simp only [Act.put, List.setIfInBounds_toArray, List.set_cons_zero, List.set_cons_succ, i64_w, i32_w]
    rfl
  refine pure_ (i := 7) (N := some 6) (v := ?_) (a' := ?_) #[true, true, true, true, true, true, true, true, false] rfl rfl (any_of HT_.out (by kernel_rfl)) (fun _ _ _ h => h) (Or.inl ⟨by rfl, ?_⟩) ?_ ?_
  rotate_left
  · intro w'
    go_simp
    with_reducible rfl
  rotate_left
  · simp only [Act.put, List.setIfInBounds_toArray, List.set_cons_zero, List.set_cons_succ, i64_w, i32_w]
    rfl
  refine pure_ (i := 8) (N := some 7) (v := ?_) (a' := ?_) #[true, true, true, true, true, true, true, true, true] rfl rfl (any_of HT_.out (by kernel_rfl)) (fun _ _ _ h => h) (Or.inl ⟨by rfl, ?_⟩) ?_ ?_
  rotate_left
  · intro w'
    go_simp
    with_reducible rfl
  rotate_left
  · simp only [Act.put, List.setIfInBounds_toArray, List.set_cons_zero, List.set_cons_succ, i64_w, i32_w]
    rfl
  refine done_ (done_of HT_.out (by kernel_rfl)) ?_
  obtain ⟨Ao11, co11, eo11⟩ := Kd.R_slice HO166.out
  subst eo11
  try go_wp2_with (first | ((with_reducible refine gate_callee (f := 21) rfl ?_); refine goesL_ (some 16) rfl rfl Try.func21 (by kernel_rfl) rfl #[.slice Ao11 t164.length co11] rfl (by (try simp only [List.map_toArray, List.map_cons, List.map_nil]); first | done | rfl | (simp only [List.length_drop, List.length_take]; rfl)) ?_; (with_reducible refine (impl_told.calls k _ _ t164 t168 _ ?side1 ?side2 A5.out).mono ?_); (case side1 => repeat (first | exact (Kd.R_reads' HO166.out).2.2 | (with_reducible refine Kd.C_alloc ?_ _) | (with_reducible refine Kd.C_drewN ?_ _) | (with_reducible refine Kd.C_drew ?_))); (case side2 => exact (Kd.R_reads' HO166.out).2.1); rintro e w12 ⟨v169, rfl, ho0, hb⟩; refine ⟨_, rfl, ?_⟩; have n0_ := Aside0.mk (Kd.R_below (by (with_reducible repeat (first | apply Kd.R_alloc | apply Kd.R_drewN | apply Kd.R_drew)); exact HO163.out) hb); have n1_ := Aside0.mk (Kd.R_below (by (with_reducible repeat (first | apply Kd.R_alloc | apply Kd.R_drewN | apply Kd.R_drew)); exact HO166.out) hb); have n2_ := Aside0.mk (Kd.R_lower (Kd.R_newB ho0 (g := gb160) (o := .cells #[.int .u64 a1_0, .int .u64 a1_1] 35 (0, 0)) (by (with_reducible repeat (first | refine blk_drewN ?_ _ | refine blk_drew ?_ | refine blk_alloc ?_ _)); exact BK160.out)) (below_size (by repeat (first | (with_reducible first | exact HB.out | apply below_alloc | apply pw_below_drewN | apply below_drew1 | refine below_set ?_ GE160.out) | exact HB.out)))); have n3_ := Aside0.mk (blk_below (g := gb160) (o := .cells #[.int .u64 a1_0, .int .u64 a1_1] 35 (0, 0)) (by (with_reducible repeat (first | refine blk_drewN ?_ _ | refine blk_drew ?_ | refine blk_alloc ?_ _)); exact BK160.out) hb); have n4_ := Aside0.mk (below_step (by repeat (first | (with_reducible first | exact HB.out | apply below_alloc | apply pw_below_drewN | apply below_drew1 | refine below_set ?_ GE160.out) | exact HB.out)) hb); clear HO163; clear HO166; clear BK160; clear HB; have HO163 := n0_; have HO166 := n1_; have HO170 := n2_; have BK160 := n3_; have HB := n4_; clear n0_ n1_ n2_ n3_ n4_; (try clear hb); (try clear hb2); (try clear hk); (try clear hi); (try clear ho0)))
  go_ret2
  exact ⟨_, by first | rfl | (simp [errW_none, errW_some] <;> rfl) | (simp [*, errW_none, errW_some] <;> rfl), by (with_reducible repeat (first | apply Kd.R_alloc | apply Kd.R_drewN | apply Kd.R_drew)); exact Kd.R_mono HO170.out (fun _ hk => trivial), by repeat (first | (with_reducible first | exact HB.out | apply below_alloc | apply pw_below_drewN | apply below_drew1 | refine below_set ?_ GE160.out) | exact HB.out)⟩

/-! ### impl_CutFrom: function 9 -/
def impl_CutFrom.f (k : Nat) (l0 : List (S35)) (a1 : Int) : Option ((List (S35)) × Int) := (impl_given.f k l0).bind fun t186 => ((mranges_CutFrom.f t186 a1).bind fun bt189 => ((impl_told.f k bt189.1).bind fun t193 => (some (t193, bt189.2))))
theorem impl_CutFrom.mono : ∀ a0 a1 k, LeO (impl_CutFrom.f k a0 a1) (impl_CutFrom.f (k + 1) a0 a1) := by
  intro a0 a1 k
  unfold impl_CutFrom.f
  repeat' first
      | (with_reducible exact impl_given.mono _ _)
      | (with_reducible exact impl_told.mono _ _)
      | (with_reducible exact LeO.refl _)
      | (with_reducible exact LeO.none _)
      | (with_reducible refine LeO.ite ?_ ?_)
      | (with_reducible refine LeO.bind ?_ (fun _ => ?_))
      | exact impl_given.mono _ _
      | exact impl_told.mono _ _
      | exact LeO.none _
      | refine LeO.ite ?_ ?_
      | refine LeO.bind ?_ (fun _ => ?_)
set_option maxHeartbeats 8000000 in
set_option maxRecDepth 100000 in
theorem impl_CutFrom.calls (k : Nat) (A0 : Option Addr) (c0 : Nat) (l0 : List (S35)) (a1 : Int) (r1 : List (S35)) (r2 : Int) (w : World) (hr0 : Kd.C k35 w A0 l0.length l0) (hc0 : l0.length ≤ c0) (h : impl_CutFrom.f k l0 a1 = some (r1, r2)) :
    Calls Try.prog 9 #[.slice A0 l0.length c0, .int .u64 a1] w fun e w' => ∃ v0_ : Value, e = .returned (.tuple #[v0_, .int .u64 r2]) ∧ Kd.R k35 35 w' w.heap.size (fun _ => True) v0_ r1 ∧ Below w.heap.size w w' := by
  have HR0 := Aside0.mk hr0
  have HC0 := Aside0.mk hc0
  clear hr0 hc0
  have HB := Aside0.mk (Below.refl w.heap.size w)
  have H : ((impl_given.f k l0).bind fun t186 => ((mranges_CutFrom.f t186 a1).bind fun bt189 => ((impl_told.f k bt189.1).bind fun t193 => (some (t193, bt189.2))))) = some (r1, r2) := h
  clear h
  replace H := Option.bind_eq_some_iff.mp H
  obtain ⟨t186, A30, H⟩ := H
  replace H : ((mranges_CutFrom.f t186 a1).bind fun bt189 => ((impl_told.f k bt189.1).bind fun t193 => (some (t193, bt189.2)))) = some (r1, r2) := H
  have A3 := Aside0.mk A30
  clear A30
  replace H := Option.bind_eq_some_iff.mp H
  obtain ⟨⟨t189, t190⟩, A40, H⟩ := H
  replace H : ((impl_told.f k t189).bind fun t193 => (some (t193, t190))) = some (r1, r2) := H
  have A4 := Aside0.mk A40
  clear A40
  replace H := Option.bind_eq_some_iff.mp H
  obtain ⟨t193, A50, H⟩ := H
  replace H : (some (t193, t190)) = some (r1, r2) := H
  have A5 := Aside0.mk A50
  clear A50
  simp only [Option.some.injEq, Prod.mk.injEq] at H
  obtain ⟨rfl, rfl⟩ := H
  go_enter Try.func9, Try.ntmps9
  go_wp2_with (first | ((with_reducible refine gate_callee (f := 20) rfl ?_); refine goesL_ (some 10) rfl rfl Try.func20 (by kernel_rfl) rfl #[.slice A0 l0.length c0] rfl (by (try simp only [List.map_toArray, List.map_cons, List.map_nil]); first | done | rfl | (simp only [List.length_drop, List.length_take]; rfl)) ?_; (with_reducible refine (impl_given.calls k _ _ l0 t186 _ ?side1 ?side2 A3.out).mono ?_); (case side1 => repeat (first | exact HR0.out | (with_reducible refine Kd.C_alloc ?_ _) | (with_reducible refine Kd.C_drewN ?_ _) | (with_reducible refine Kd.C_drew ?_))); (case side2 => exact HC0.out); rintro e w6 ⟨v187, rfl, ho0, hb⟩; refine ⟨_, rfl, ?_⟩; have n0_ := Aside0.mk (Kd.R_lower ho0 (below_size (by repeat (first | (with_reducible first | exact HB.out | apply below_alloc | apply pw_below_drewN | apply below_drew1) | exact HB.out)))); have n1_ := Aside0.mk (below_step (by repeat (first | (with_reducible first | exact HB.out | apply below_alloc | apply pw_below_drewN | apply below_drew1) | exact HB.out)) hb); clear HB; have HO188 := n0_; have HB := n1_; clear n0_ n1_; (try clear hb); (try clear hb2); (try clear hk); (try clear hi); (try clear ho0); obtain ⟨Ao7, co7, eo7⟩ := Kd.R_slice HO188.out; subst eo7) | ((with_reducible refine gate_callee (f := 23) rfl ?_); refine goesL_ (some 12) rfl rfl Try.func23 (by kernel_rfl) rfl #[.slice Ao7 t186.length co7, .int .u64 a1] rfl (by (try simp only [List.map_toArray, List.map_cons, List.map_nil]); first | done | rfl | (simp only [List.length_drop, List.length_take]; rfl)) ?_; (with_reducible refine (mranges_CutFrom.calls _ _ t186 a1 t189 t190 _ ?side1 ?side2 A4.out).mono ?_); (case side1 => repeat (first | exact (Kd.R_reads' HO188.out).2.2 | (with_reducible refine Kd.C_alloc ?_ _) | (with_reducible refine Kd.C_drewN ?_ _) | (with_reducible refine Kd.C_drew ?_))); (case side2 => exact (Kd.R_reads' HO188.out).2.1); rintro e w8 ⟨v191, rfl, ho0, hb⟩; refine ⟨_, rfl, ?_⟩; have n0_ := Aside0.mk (Kd.R_elder' (by (with_reducible repeat (first | apply Kd.R_alloc | apply Kd.R_drewN | apply Kd.R_drew)); exact HO188.out) (Kd.R_base ho0) hb); have n1_ := Aside0.mk (Kd.R_lower (Kd.R_new' ho0 (Kd.R_lt (by (with_reducible repeat (first | apply Kd.R_alloc | apply Kd.R_drewN | apply Kd.R_drew)); exact HO188.out))) (below_size (by repeat (first | (with_reducible first | exact HB.out | apply below_alloc | apply pw_below_drewN | apply below_drew1) | exact HB.out)))); have n2_ := Aside0.mk (below_step (by repeat (first | (with_reducible first | exact HB.out | apply below_alloc | apply pw_below_drewN | apply below_drew1) | exact HB.out)) hb); clear HO188; clear HB; have HO188 := n0_; have HO192 := n1_; have HB := n2_; clear n0_ n1_ n2_; (try clear hb); (try clear hb2); (try clear hk); (try clear hi); (try clear ho0); obtain ⟨Ao9, co9, eo9⟩ := Kd.R_slice HO192.out; subst eo9) | ((with_reducible refine gate_callee (f := 21) rfl ?_); refine goesL_ (some 16) rfl rfl Try.func21 (by kernel_rfl) rfl #[.slice Ao9 t189.length co9] rfl (by (try simp only [List.map_toArray, List.map_cons, List.map_nil]); first | done | rfl | (simp only [List.length_drop, List.length_take]; rfl)) ?_; (with_reducible refine (impl_told.calls k _ _ t189 t193 _ ?side1 ?side2 A5.out).mono ?_); (case side1 => repeat (first | exact (Kd.R_reads' HO192.out).2.2 | (with_reducible refine Kd.C_alloc ?_ _) | (with_reducible refine Kd.C_drewN ?_ _) | (with_reducible refine Kd.C_drew ?_))); (case side2 => exact (Kd.R_reads' HO192.out).2.1); rintro e w10 ⟨v194, rfl, ho0, hb⟩; refine ⟨_, rfl, ?_⟩; have n0_ := Aside0.mk (Kd.R_below (by (with_reducible repeat (first | apply Kd.R_alloc | apply Kd.R_drewN | apply Kd.R_drew)); exact HO188.out) hb); have n1_ := Aside0.mk (Kd.R_below (by (with_reducible repeat (first | apply Kd.R_alloc | apply Kd.R_drewN | apply Kd.R_drew)); exact HO192.out) hb); have n2_ := Aside0.mk (Kd.R_lower ho0 (below_size (by repeat (first | (with_reducible first | exact HB.out | apply below_alloc | apply pw_below_drewN | apply below_drew1) | exact HB.out)))); have n3_ := Aside0.mk (below_step (by repeat (first | (with_reducible first | exact HB.out | apply below_alloc | apply pw_below_drewN | apply below_drew1) | exact HB.out)) hb); clear HO188; clear HO192; clear HB; have HO188 := n0_; have HO192 := n1_; have HO195 := n2_; have HB := n3_; clear n0_ n1_ n2_ n3_; (try clear hb); (try clear hb2); (try clear hk); (try clear hi); (try clear ho0)))
  go_ret2
  exact ⟨_, by first | rfl | (simp [errW_none, errW_some] <;> rfl) | (simp [*, errW_none, errW_some] <;> rfl), by (with_reducible repeat (first | apply Kd.R_alloc | apply Kd.R_drewN | apply Kd.R_drew)); exact HO195.out, by repeat (first | (with_reducible first | exact HB.out | apply below_alloc | apply pw_below_drewN | apply below_drew1) | exact HB.out)⟩

/-! ### impl_RemoveLast: function 11 -/
def impl_RemoveLast.f (k : Nat) (l0 : List (S35)) (a1 : Int) : Option ((List (S35)) × Int × Int × Int) := (impl_given.f k l0).bind fun t207 => ((mranges_RemoveLast.f t207 a1).bind fun bt210 => ((impl_told.f k bt210.1).bind fun t217 => (some (t217, bt210.2.1, bt210.2.2.1, bt210.2.2.2))))
theorem impl_RemoveLast.mono : ∀ a0 a1 k, LeO (impl_RemoveLast.f k a0 a1) (impl_RemoveLast.f (k + 1) a0 a1) := by
  intro a0 a1 k
  unfold impl_RemoveLast.f
  repeat' first
      | (with_reducible exact impl_given.mono _ _)
      | (with_reducible exact impl_told.mono _ _)
      | (with_reducible exact LeO.refl _)
      | (with_reducible exact LeO.none _)
      | (with_reducible refine LeO.ite ?_ ?_)
      | (with_reducible refine LeO.bind ?_ (fun _ => ?_))
      | exact impl_given.mono _ _
      | exact impl_told.mono _ _
      | exact LeO.none _
      | refine LeO.ite ?_ ?_
      | refine LeO.bind ?_ (fun _ => ?_)
set_option maxHeartbeats 8000000 in
set_option maxRecDepth 100000 in
theorem impl_RemoveLast.calls (k : Nat) (A0 : Option Addr) (c0 : Nat) (l0 : List (S35)) (a1 : Int) (r1 : List (S35)) (r2 : Int) (r3 : Int) (r4 : Int) (w : World) (hr0 : Kd.C k35 w A0 l0.length l0) (hc0 : l0.length ≤ c0) (h : impl_RemoveLast.f k l0 a1 = some (r1, r2, r3, r4)) :
    Calls Try.prog 11 #[.slice A0 l0.length c0, .int .u64 a1] w fun e w' => ∃ v0_ : Value, e = .returned (.tuple #[v0_, .int .u64 r2, .agg #[.int .u64 r3, .int .u64 r4]]) ∧ Kd.R k35 35 w' w.heap.size (fun _ => True) v0_ r1 ∧ Below w.heap.size w w' := by
  have hu35 := Try.underlying35
  have hu56 := Try.underlying56
  have HR0 := Aside0.mk hr0
  have HC0 := Aside0.mk hc0
  clear hr0 hc0
  have HB := Aside0.mk (Below.refl w.heap.size w)
  have H : ((impl_given.f k l0).bind fun t207 => ((mranges_RemoveLast.f t207 a1).bind fun bt210 => ((impl_told.f k bt210.1).bind fun t217 => (some (t217, bt210.2.1, bt210.2.2.1, bt210.2.2.2))))) = some (r1, r2, r3, r4) := h
  clear h
  replace H := Option.bind_eq_some_iff.mp H
  obtain ⟨t207, A30, H⟩ := H
  replace H : ((mranges_RemoveLast.f t207 a1).bind fun bt210 => ((impl_told.f k bt210.1).bind fun t217 => (some (t217, bt210.2.1, bt210.2.2.1, bt210.2.2.2)))) = some (r1, r2, r3, r4) := H
  have A3 := Aside0.mk A30
  clear A30
  replace H := Option.bind_eq_some_iff.mp H
  obtain ⟨⟨t210, t213, t214, t215⟩, A40, H⟩ := H
  replace H : ((impl_told.f k t210).bind fun t217 => (some (t217, t213, t214, t215))) = some (r1, r2, r3, r4) := H
  have A4 := Aside0.mk A40
  clear A40
  replace H := Option.bind_eq_some_iff.mp H
  obtain ⟨t217, A50, H⟩ := H
  replace H : (some (t217, t213, t214, t215)) = some (r1, r2, r3, r4) := H
  have A5 := Aside0.mk A50
  clear A50
  simp only [Option.some.injEq, Prod.mk.injEq] at H
  obtain ⟨rfl, rfl, rfl, rfl⟩ := H
  go_enter Try.func11, Try.ntmps11
  try go_wp2_with (first | ((with_reducible refine gate_dst (N := 6) rfl ?_); refine box_event ?hg (N := 6) ?hd (cs := #[.int .u64 0, .int .u64 0]) (t := 35) ?hr ?_; (case hd => rfl); (case hg => rfl); (case hr => first | (go_simp; done) | (go_simp; rfl)); intro gb206 hg w6 hbox hb; have n0_ := Aside0.mk (below_step (by repeat (first | (with_reducible first | exact HB.out | apply below_alloc | apply pw_below_drewN | apply below_drew1) | exact HB.out)) hb); have n1_ := Aside0.mk (hbox); have n2_ := Aside0.mk ((by rw [hg]; exact (below_size (by repeat (first | (with_reducible first | exact HB.out | apply below_alloc | apply pw_below_drewN | apply below_drew1) | exact HB.out))) : w.heap.size ≤ gb206)); have n3_ := Aside0.mk ((by rw [hg]; exact (below_size (by repeat (first | (with_reducible first | exact HB.out | apply below_alloc | apply pw_below_drewN | apply below_drew1) | exact HB.out))) : w.heap.size ≤ gb206)); clear HB; have HB := n0_; have BK206 := n1_; have GW206 := n2_; have GE206 := n3_; clear n0_ n1_ n2_ n3_; clear hb hbox hg) | ((with_reducible refine gate_callee (f := 20) rfl ?_); refine goesL_ (some 12) rfl rfl Try.func20 (by kernel_rfl) rfl #[.slice A0 l0.length c0] rfl (by (try simp only [List.map_toArray, List.map_cons, List.map_nil]); first | done | rfl | (simp only [List.length_drop, List.length_take]; rfl)) ?_; (with_reducible refine (impl_given.calls k _ _ l0 t207 _ ?side1 ?side2 A3.out).mono ?_); (case side1 => repeat (first | exact (Kd.C_below HR0.out HB.out) | (with_reducible refine Kd.C_alloc ?_ _) | (with_reducible refine Kd.C_drewN ?_ _) | (with_reducible refine Kd.C_drew ?_))); (case side2 => exact HC0.out); rintro e w7 ⟨v208, rfl, ho0, hb⟩; refine ⟨_, rfl, ?_⟩; have n0_ := Aside0.mk (Kd.R_lower ho0 (below_size (by repeat (first | (with_reducible first | exact HB.out | apply below_alloc | apply pw_below_drewN | apply below_drew1 | refine below_set ?_ GE206.out) | exact HB.out)))); have n1_ := Aside0.mk (blk_below (g := gb206) (o := .cells #[.int .u64 0, .int .u64 0] 35 (0, 0)) (by (with_reducible repeat (first | refine blk_drewN ?_ _ | refine blk_drew ?_ | refine blk_alloc ?_ _)); exact BK206.out) hb); have n2_ := Aside0.mk (below_step (by repeat (first | (with_reducible first | exact HB.out | apply below_alloc | apply pw_below_drewN | apply below_drew1 | refine below_set ?_ GE206.out) | exact HB.out)) hb); clear BK206; clear HB; have HO209 := n0_; have BK206 := n1_; have HB := n2_; clear n0_ n1_ n2_; (try clear hb); (try clear hb2); (try clear hk); (try clear hi); (try clear ho0); obtain ⟨Ao8, co8, eo8⟩ := Kd.R_slice HO209.out; subst eo8) | ((with_reducible refine gate_callee (f := 24) rfl ?_); refine goesL_ (some 14) rfl rfl Try.func24 (by kernel_rfl) rfl #[.slice Ao8 t207.length co8, .int .u64 a1] rfl (by (try simp only [List.map_toArray, List.map_cons, List.map_nil]); first | done | rfl | (simp only [List.length_drop, List.length_take]; rfl)) ?_; (with_reducible refine (mranges_RemoveLast.calls _ _ t207 a1 t210 t213 t214 t215 _ ?side1 ?side2 A4.out).mono ?_); (case side1 => repeat (first | exact (Kd.R_reads' HO209.out).2.2 | (with_reducible refine Kd.C_alloc ?_ _) | (with_reducible refine Kd.C_drewN ?_ _) | (with_reducible refine Kd.C_drew ?_))); (case side2 => exact (Kd.R_reads' HO209.out).2.1); rintro e w9 ⟨v211, rfl, ho0, hb⟩; refine ⟨_, rfl, ?_⟩; have n0_ := Aside0.mk (Kd.R_elder' (by (with_reducible repeat (first | apply Kd.R_alloc | apply Kd.R_drewN | apply Kd.R_drew)); exact HO209.out) (Kd.R_base ho0) hb); have n1_ := Aside0.mk (Kd.R_lower (Kd.R_new' ho0 (Kd.R_lt (by (with_reducible repeat (first | apply Kd.R_alloc | apply Kd.R_drewN | apply Kd.R_drew)); exact HO209.out))) (below_size (by repeat (first | (with_reducible first | exact HB.out | apply below_alloc | apply pw_below_drewN | apply below_drew1 | refine below_set ?_ GE206.out) | exact HB.out)))); have n2_ := Aside0.mk (blk_below (g := gb206) (o := .cells #[.int .u64 0, .int .u64 0] 35 (0, 0)) (by (with_reducible repeat (first | refine blk_drewN ?_ _ | refine blk_drew ?_ | refine blk_alloc ?_ _)); exact BK206.out) hb); have n3_ := Aside0.mk (below_step (by repeat (first | (with_reducible first | exact HB.out | apply below_alloc | apply pw_below_drewN | apply below_drew1 | refine below_set ?_ GE206.out) | exact HB.out)) hb); clear HO209; clear BK206; clear HB; have HO209 := n0_; have HO212 := n1_; have BK206 := n2_; have HB := n3_; clear n0_ n1_ n2_ n3_; (try clear hb); (try clear hb2); (try clear hk); (try clear hi); (try clear ho0)) | ((with_reducible refine gate_dst (N := 9) rfl ?_); refine box_event ?hg (N := 9) ?hd (cs := #[.int .u64 0, .int .u64 0]) (t := 56) ?hr ?_; (case hd => rfl); (case hg => rfl); (case hr => first | (go_simp; done) | (go_simp; rfl)); intro gb216 hg w10 hbox hb; have n0_ := Aside0.mk (Kd.R_below (Kd.R_elderB (by (with_reducible repeat (first | apply Kd.R_alloc | apply Kd.R_drewN | apply Kd.R_drew)); exact HO209.out) gb216 (Nat.le_of_eq hg.symm)) hb); have n1_ := Aside0.mk (Kd.R_below (Kd.R_elderB (by (with_reducible repeat (first | apply Kd.R_alloc | apply Kd.R_drewN | apply Kd.R_drew)); exact HO212.out) gb216 (Nat.le_of_eq hg.symm)) hb); have n2_ := Aside0.mk (blk_below (g := gb206) (o := .cells #[.int .u64 0, .int .u64 0] 35 (0, 0)) (by (with_reducible repeat (first | refine blk_drewN ?_ _ | refine blk_drew ?_ | refine blk_alloc ?_ _)); exact BK206.out) hb); have n3_ := Aside0.mk (below_step (by repeat (first | (with_reducible first | exact HB.out | apply below_alloc | apply pw_below_drewN | apply below_drew1 | refine below_set ?_ GE206.out) | exact HB.out)) hb); have n4_ := Aside0.mk (hbox); have n5_ := Aside0.mk ((by rw [hg]; exact (below_size (by repeat (first | (with_reducible first | exact HB.out | apply below_alloc | apply pw_below_drewN | apply below_drew1 | refine below_set ?_ GE206.out) | exact HB.out))) : w.heap.size ≤ gb216)); have n6_ := Aside0.mk ((by rw [hg]; exact (below_size (by repeat (first | (with_reducible first | exact HB.out | apply below_alloc | apply pw_below_drewN | apply below_drew1 | refine below_set ?_ GE206.out) | exact HB.out))) : w.heap.size ≤ gb216)); have n7_ := Aside0.mk ((by rw [hg]; exact Nat.ne_of_lt (blk_lt (g := gb206) (o := .cells #[.int .u64 0, .int .u64 0] 35 (0, 0)) (by (with_reducible repeat (first | refine blk_drewN ?_ _ | refine blk_drew ?_ | refine blk_alloc ?_ _)); exact BK206.out)) : gb206 ≠ gb216)); have n8_ := Aside0.mk ((by rw [hg]; exact Nat.ne_of_gt (blk_lt (g := gb206) (o := .cells #[.int .u64 0, .int .u64 0] 35 (0, 0)) (by (with_reducible repeat (first | refine blk_drewN ?_ _ | refine blk_drew ?_ | refine blk_alloc ?_ _)); exact BK206.out)) : gb216 ≠ gb206)); clear HO209; clear HO212; clear BK206; clear HB; have HO209 := n0_; have HO212 := n1_; have BK206 := n2_; have HB := n3_; have BK216 := n4_; have GW216 := n5_; have GE216 := n6_; have NB206_216 := n7_; have NB216_206 := n8_; clear n0_ n1_ n2_ n3_ n4_ n5_ n6_ n7_ n8_; clear hb hbox hg; have hnb11 := NB216_206.out; have hnc11 := NB206_216.out; have hcz12_0 : w10.cell? ⟨gb216, 0, none⟩ = some (.int .u64 0) := (blk_cell BK216.out 0).trans rfl; have hcz12_1 : w10.cell? ⟨gb216, 1, none⟩ = some (.int .u64 0) := (blk_cell BK216.out 1).trans rfl; have hfz12_0 := blk_frozen BK216.out 0; have hfz12_1 := blk_frozen BK216.out 1))
  have n0_ : Aside0 (Kd.R k56 56 ((w10.setCell ⟨gb216, 0, none⟩ (.int .u64 t214)).setCell ⟨gb216, 1, none⟩ (.int .u64 t215)) w.heap.size (fun k_ => some k_ ≠ (v211 : Value).ownBlock ∧ k_ ≠ gb216) (.slice Ao8 t207.length co8) t207) := ⟨by (with_reducible repeat (first | apply Kd.R_alloc | apply Kd.R_drewN | apply Kd.R_drew)); exact Kd.R_mono (Kd.R_far (p := ⟨gb216, 1, none⟩) (Kd.R_far (p := ⟨gb216, 0, none⟩) (Kd.R_mono HO209.out (fun k_ hk => (⟨hk, hk.2⟩ : _ ∧ k_ ≠ gb216))) (fun _ hk => hk.2) (.int .u64 t214)) (fun _ hk => hk.2) (.int .u64 t215)) (fun _ hk => ⟨hk.1.1.2, hk.1.2⟩)⟩
  have n1_ : Aside0 (Kd.R k56 56 ((w10.setCell ⟨gb216, 0, none⟩ (.int .u64 t214)).setCell ⟨gb216, 1, none⟩ (.int .u64 t215)) w.heap.size (fun k_ => some k_ ≠ (.slice Ao8 t207.length co8 : Value).ownBlock ∧ k_ ≠ gb216) v211 t210) := ⟨by (with_reducible repeat (first | apply Kd.R_alloc | apply Kd.R_drewN | apply Kd.R_drew)); exact Kd.R_mono (Kd.R_far (p := ⟨gb216, 1, none⟩) (Kd.R_far (p := ⟨gb216, 0, none⟩) (Kd.R_mono HO212.out (fun k_ hk => (⟨hk, hk.2⟩ : _ ∧ k_ ≠ gb216))) (fun _ hk => hk.2) (.int .u64 t214)) (fun _ hk => hk.2) (.int .u64 t215)) (fun _ hk => ⟨hk.1.1.2, hk.1.2⟩)⟩
  have n2_ : Aside0 (((w10.setCell ⟨gb216, 0, none⟩ (.int .u64 t214)).setCell ⟨gb216, 1, none⟩ (.int .u64 t215)).heap[gb206]? = some (.cells #[.int .u64 0, .int .u64 0] 35 (0, 0))) := ⟨by (with_reducible repeat (first | refine blk_drewN ?_ _ | refine blk_drew ?_ | refine blk_alloc ?_ _)); refine blk_far ?_ NB206_216.out _; (with_reducible repeat (first | refine blk_drewN ?_ _ | refine blk_drew ?_ | refine blk_alloc ?_ _)); refine blk_far ?_ NB206_216.out _; (with_reducible repeat (first | refine blk_drewN ?_ _ | refine blk_drew ?_ | refine blk_alloc ?_ _)); exact BK206.out⟩
  have n3_ : Aside0 (((w10.setCell ⟨gb216, 0, none⟩ (.int .u64 t214)).setCell ⟨gb216, 1, none⟩ (.int .u64 t215)).heap[gb216]? = some (.cells #[.int .u64 t214, .int .u64 t215] 56 (0, 0))) := ⟨by (with_reducible repeat (first | refine blk_drewN ?_ _ | refine blk_drew ?_ | refine blk_alloc ?_ _)); refine blk_put (cs := #[.int .u64 t214, .int .u64 0]) ?_ 1 _ rfl; (with_reducible repeat (first | refine blk_drewN ?_ _ | refine blk_drew ?_ | refine blk_alloc ?_ _)); refine blk_put (cs := #[.int .u64 0, .int .u64 0]) ?_ 0 _ rfl; (with_reducible repeat (first | refine blk_drewN ?_ _ | refine blk_drew ?_ | refine blk_alloc ?_ _)); exact BK216.out⟩
  have n4_ : Aside0 (Below w.heap.size w ((w10.setCell ⟨gb216, 0, none⟩ (.int .u64 t214)).setCell ⟨gb216, 1, none⟩ (.int .u64 t215))) := ⟨by repeat (first | (with_reducible first | exact HB.out | apply below_alloc | apply pw_below_drewN | apply below_drew1 | refine below_set ?_ GE206.out | refine below_set ?_ GE216.out) | exact HB.out)⟩
  (try clear HO209)
  (try clear HO212)
  (try clear BK206)
  (try clear BK216)
  (try clear HB)
  generalize ((w10.setCell ⟨gb216, 0, none⟩ (.int .u64 t214)).setCell ⟨gb216, 1, none⟩ (.int .u64 t215)) = w13 at n0_ n1_ n2_ n3_ n4_ ⊢
  have HO209 := n0_
  have HO212 := n1_
  have BK206 := n2_
  have BK216 := n3_
  have HB := n4_
  clear n0_ n1_ n2_ n3_ n4_
  have n0_ := Aside0.mk (Kd.R_drew HO209.out)
  have n1_ := Aside0.mk (Kd.R_drew HO212.out)
  have n2_ := Aside0.mk (blk_drew BK206.out)
  have n3_ := Aside0.mk (blk_drew BK216.out)
  have n4_ := Aside0.mk (below_drew1 HB.out)
  clear HO209
  clear HO212
  clear BK206
  clear BK216
  clear HB
  have HO209 := n0_
  have HO212 := n1_
  have BK206 := n2_
  have BK216 := n3_
  have HB := n4_
  clear n0_ n1_ n2_ n3_ n4_
  obtain ⟨Ao15, co15, eo15⟩ := Kd.R_slice HO212.out
  (first | subst eo15 | (injection eo15 with f1_ f2_ f3_; have f4_ := f1_.symm; have f5_ := f3_.symm; clear f1_ f2_ f3_; subst f4_; subst f5_))
  refine start_ (n := 7) (S := fun w' => w'.cell? ⟨gb216, 0, none⟩ = some (.int .u64 t214) ∧ w'.cell? ⟨gb216, 1, none⟩ = some (.int .u64 t215)) (ds := []) #[false, false, false, false, false, false, false] (by kernel_rfl) rfl rfl ⟨(blk_cell BK216.out 0).trans rfl, (blk_cell BK216.out 1).trans rfl⟩ (fun hHeld => ?_)
  generalize w13.drew = w14 at HO209 HO212 BK206 BK216 HB hHeld ⊢
  refine pure_ (i := 0) (N := some 18) (v := ?_) (a' := ?_) #[true, false, false, false, false, false, false] rfl rfl (by kernel_rfl) (fun _ _ _ h => h) (Or.inl ⟨by rfl, ?_⟩) ?_ ?_
  rotate_left
  · intro w'
    go_simp
    with_reducible rfl
  rotate_left
  · simp only [Act.put, List.setIfInBounds_toArray, List.set_cons_zero, List.set_cons_succ, i64_w, i32_w]
    rfl
  refine pure_ (i := 2) (N := some 20) (v := ?_) (a' := ?_) #[true, false, true, false, false, false, false] rfl rfl (by kernel_rfl) (fun _ _ _ h => h) (Or.inl ⟨by rfl, ?_⟩) ?_ ?_
  rotate_left
  · intro w'
    go_simp
    with_reducible rfl
  rotate_left
  · simp only [Act.put, List.setIfInBounds_toArray, List.set_cons_zero, List.set_cons_succ, i64_w, i32_w]
    rfl
  refine take_ (i := 3) (N := some 21) (v := ?_) (a' := ?_) #[true, false, true, true, false, false, false] rfl rfl (by kernel_rfl) (fun _ _ _ h => h) (Or.inl ⟨by rfl, ?_⟩) hHeld ?_ ?_
  rotate_left
  · rintro w' ⟨s0, s1⟩
    go_simp
    with_reducible rfl
  rotate_left
  · simp only [Act.put, List.setIfInBounds_toArray, List.set_cons_zero, List.set_cons_succ, i64_w, i32_w]
    rfl
  refine one_ (i := 1) (N := some 19) #[true, true, true, true, false, false, false] rfl rfl (by kernel_rfl) (by decide) (fun K hK => ?_)
  refine goes_ Try.func21 (by kernel_rfl) rfl #[.slice Ao15 t210.length co15] (by rfl) rfl rfl (by (try simp only [List.map_toArray, List.map_cons, List.map_nil]); first | done | rfl | (simp only [List.length_drop, List.length_take]; rfl)) ?_
  with_reducible refine (impl_told.calls k _ _ t210 t217 _ ?side1 ?side2 A5.out).mono ?_
  (case side1 => repeat (first | exact (Kd.R_reads' HO212.out).2.2 | (with_reducible refine Kd.C_alloc ?_ _) | (with_reducible refine Kd.C_drewN ?_ _) | (with_reducible refine Kd.C_drew ?_)))
  (case side2 => exact (Kd.R_reads' HO212.out).2.1)
  rintro e w16 ⟨v218, rfl, ho0, hb⟩
  refine ⟨_, rfl, ?_⟩
  have n0_ := Aside0.mk (Kd.R_below (by (with_reducible repeat (first | apply Kd.R_alloc | apply Kd.R_drewN | apply Kd.R_drew)); exact HO209.out) hb)
  have n1_ := Aside0.mk (Kd.R_below (by (with_reducible repeat (first | apply Kd.R_alloc | apply Kd.R_drewN | apply Kd.R_drew)); exact HO212.out) hb)
  have n2_ := Aside0.mk (Kd.R_lower (Kd.R_newB ho0 (g := gb206) (o := .cells #[.int .u64 0, .int .u64 0] 35 (0, 0)) (by (with_reducible repeat (first | refine blk_drewN ?_ _ | refine blk_drew ?_ | refine blk_alloc ?_ _)); exact BK206.out)) (below_size (by repeat (first | (with_reducible first | exact HB.out | apply below_alloc | apply pw_below_drewN | apply below_drew1 | refine below_set ?_ GE206.out | refine below_set ?_ GE216.out) | exact HB.out))))
  have n3_ := Aside0.mk (blk_below (g := gb206) (o := .cells #[.int .u64 0, .int .u64 0] 35 (0, 0)) (by (with_reducible repeat (first | refine blk_drewN ?_ _ | refine blk_drew ?_ | refine blk_alloc ?_ _)); exact BK206.out) hb)
  have n4_ := Aside0.mk (blk_below (g := gb216) (o := .cells #[.int .u64 t214, .int .u64 t215] 56 (0, 0)) (by (with_reducible repeat (first | refine blk_drewN ?_ _ | refine blk_drew ?_ | refine blk_alloc ?_ _)); exact BK216.out) hb)
  have n5_ := Aside0.mk (below_step (by repeat (first | (with_reducible first | exact HB.out | apply below_alloc | apply pw_below_drewN | apply below_drew1 | refine below_set ?_ GE206.out | refine below_set ?_ GE216.out) | exact HB.out)) hb)
  clear HO209
  clear HO212
  clear BK206
  clear BK216
  clear HB
  have HO209 := n0_
  have HO212 := n1_
  have HO219 := n2_
  have BK206 := n3_
  have BK216 := n4_
  have HB := n5_
  clear n0_ n1_ n2_ n3_ n4_ n5_
  (try clear hb)
  (try clear hb2)
  (try clear hk)
  (try clear hi)
  (try clear ho0)
  refine hK.out _ _ ⟨(blk_cell BK216.out 0).trans rfl, (blk_cell BK216.out 1).trans rfl⟩ (fun hHeld => ?_)
  clear hK K
  refine norm_ (a' := ?_) ?_ ?_
  rotate_left
  · show Act.put _ (some 19) _ = _
    simp only [Act.put, List.setIfInBounds_toArray, List.set_cons_zero, List.set_cons_succ, i64_w, i32_w]
    rfl
  refine pure_ (i := 4) (N := some 4) (v := ?_) (a' := ?_) #[true, true, true, true, true, false, false] rfl rfl (by kernel_rfl) (fun _ _ _ h => h) (Or.inl ⟨by rfl, ?_⟩) ?_ ?_
  rotate_left
  · intro w'
    go_simp
    with_reducible rfl
  rotate_left
  · simp only [Act.put, List.setIfInBounds_toArray, List.set_cons_zero, List.set_cons_succ, i64_w, i32_w]
    rfl
  refine pure_ (i := 5) (N := some 5) (v := ?_) (a' := ?_) #[true, true, true, true, true, true, false] rfl rfl (by kernel_rfl) (fun _ _ _ h => h) (Or.inl ⟨by rfl, ?_⟩) ?_ ?_
  rotate_left
  · intro w'
    go_simp
    with_reducible rfl
  rotate_left
  · simp only [Act.put, List.setIfInBounds_toArray, List.set_cons_zero, List.set_cons_succ, i64_w, i32_w]
    rfl
  refine one_ (i := 6) (N := none) #[true, true, true, true, true, true, true] rfl rfl (by kernel_rfl) (by decide) (fun K hK => ?_)
  have hs17 : w16.cell? ⟨gb206, 0, none⟩ = some (.int .u64 0) := (blk_cell BK206.out 0).trans rfl
  have hfs17 := blk_frozen BK206.out 0
  have hns17_1 := NB216_206.out
  have hms17_1 := NB206_216.out
  have hs18 : w16.cell? ⟨gb206, 1, none⟩ = some (.int .u64 0) := (blk_cell BK206.out 1).trans rfl
  have hfs18 := blk_frozen BK206.out 1
  have hns18_1 := NB216_206.out
  have hms18_1 := NB206_216.out
  refine skip_ (w1 := ?_) (by rfl) rfl ?_ ?_
  rotate_left
  · go_simp
    rfl
  refine hK.out _ _ ⟨((cell_far (p := ⟨gb206, _, none⟩) NB216_206.out _).trans (((cell_far (p := ⟨gb206, _, none⟩) NB216_206.out _).trans (hHeld.1)))), ((cell_far (p := ⟨gb206, _, none⟩) NB216_206.out _).trans (((cell_far (p := ⟨gb206, _, none⟩) NB216_206.out _).trans (hHeld.2))))⟩ (fun hHeld => ?_)
  clear hK K
  refine done_ (by kernel_rfl) ?_
  try go_wp2
  refine bodyPost_ret (results_list (rs := [.tmp 4, .tmp 5, .cell 6 35]) rfl (by simp) (.tmp (.tmp (.cell gb206 35 #[.int .u64 t214, .int .u64 t215] (0, 0) _ rfl (by (with_reducible repeat (first | refine blk_drewN ?_ _ | refine blk_drew ?_ | refine blk_alloc ?_ _)); refine blk_put (cs := #[.int .u64 t214, .int .u64 0]) ?_ 1 _ rfl; (with_reducible repeat (first | refine blk_drewN ?_ _ | refine blk_drew ?_ | refine blk_alloc ?_ _)); refine blk_put (cs := #[.int .u64 0, .int .u64 0]) ?_ 0 _ rfl; (with_reducible repeat (first | refine blk_drewN ?_ _ | refine blk_drew ?_ | refine blk_alloc ?_ _)); exact BK206.out) Try.underlying35 rfl (by kernel_rfl) .nil)))) rfl ?_
  exact ⟨_, by first | rfl | (simp [errW_none, errW_some] <;> rfl) | (simp [*, errW_none, errW_some] <;> rfl), by (with_reducible repeat (first | apply Kd.R_alloc | apply Kd.R_drewN | apply Kd.R_drew)); exact Kd.R_mono (Kd.R_far (p := ⟨gb206, 1, none⟩) (Kd.R_far (p := ⟨gb206, 0, none⟩) (Kd.R_mono HO219.out (fun k_ hk => (⟨hk, hk.2⟩ : _ ∧ k_ ≠ gb206))) (fun _ hk => hk.2) (.int .u64 t214)) (fun _ hk => hk.2) (.int .u64 t215)) (fun _ hk => trivial), by repeat (first | (with_reducible first | exact HB.out | apply below_alloc | apply pw_below_drewN | apply below_drew1 | refine below_set ?_ GE206.out | refine below_set ?_ GE216.out) | exact HB.out)⟩

/-! ### impl_FindAddrGreaterEqual: function 16 -/
def impl_FindAddrGreaterEqual.f (k : Nat) (l0 : List (S35)) (a1 : Int) : Option (Int × Bool) := (impl_given.f k l0).bind fun t238 => ((mranges_FindAddrGreaterEqual.f t238 a1).bind fun bt241 => (some (bt241.1, bt241.2)))
theorem impl_FindAddrGreaterEqual.mono : ∀ a0 a1 k, LeO (impl_FindAddrGreaterEqual.f k a0 a1) (impl_FindAddrGreaterEqual.f (k + 1) a0 a1) := by
  intro a0 a1 k
  unfold impl_FindAddrGreaterEqual.f
  repeat' first
      | (with_reducible exact impl_given.mono _ _)
      | (with_reducible exact LeO.refl _)
      | (with_reducible exact LeO.none _)
      | (with_reducible refine LeO.ite ?_ ?_)
      | (with_reducible refine LeO.bind ?_ (fun _ => ?_))
      | exact impl_given.mono _ _
      | exact LeO.none _
      | refine LeO.ite ?_ ?_
      | refine LeO.bind ?_ (fun _ => ?_)
set_option maxHeartbeats 8000000 in
set_option maxRecDepth 100000 in
theorem impl_FindAddrGreaterEqual.calls (k : Nat) (A0 : Option Addr) (c0 : Nat) (l0 : List (S35)) (a1 : Int) (r1 : Int) (r2 : Bool) (w : World) (hr0 : Kd.C k35 w A0 l0.length l0) (hc0 : l0.length ≤ c0) (h : impl_FindAddrGreaterEqual.f k l0 a1 = some (r1, r2)) :
    Calls Try.prog 16 #[.slice A0 l0.length c0, .int .u64 a1] w fun e w' => e = .returned (.tuple #[.int .u64 r1, .bool r2]) ∧ Below w.heap.size w w' := by
  have HR0 := Aside0.mk hr0
  have HC0 := Aside0.mk hc0
  clear hr0 hc0
  have HB := Aside0.mk (Below.refl w.heap.size w)
  have H : ((impl_given.f k l0).bind fun t238 => ((mranges_FindAddrGreaterEqual.f t238 a1).bind fun bt241 => (some (bt241.1, bt241.2)))) = some (r1, r2) := h
  clear h
  replace H := Option.bind_eq_some_iff.mp H
  obtain ⟨t238, A30, H⟩ := H
  replace H : ((mranges_FindAddrGreaterEqual.f t238 a1).bind fun bt241 => (some (bt241.1, bt241.2))) = some (r1, r2) := H
  have A3 := Aside0.mk A30
  clear A30
  replace H := Option.bind_eq_some_iff.mp H
  obtain ⟨⟨t241, t242⟩, A40, H⟩ := H
  replace H : (some (t241, t242)) = some (r1, r2) := H
  have A4 := Aside0.mk A40
  clear A40
  simp only [Option.some.injEq, Prod.mk.injEq] at H
  obtain ⟨rfl, rfl⟩ := H
  go_enter Try.func16, Try.ntmps16
  go_wp2_with (first | ((with_reducible refine gate_callee (f := 20) rfl ?_); refine goesL_ (some 7) rfl rfl Try.func20 (by kernel_rfl) rfl #[.slice A0 l0.length c0] rfl (by (try simp only [List.map_toArray, List.map_cons, List.map_nil]); first | done | rfl | (simp only [List.length_drop, List.length_take]; rfl)) ?_; (with_reducible refine (impl_given.calls k _ _ l0 t238 _ ?side1 ?side2 A3.out).mono ?_); (case side1 => repeat (first | exact HR0.out | (with_reducible refine Kd.C_alloc ?_ _) | (with_reducible refine Kd.C_drewN ?_ _) | (with_reducible refine Kd.C_drew ?_))); (case side2 => exact HC0.out); rintro e w5 ⟨v239, rfl, ho0, hb⟩; refine ⟨_, rfl, ?_⟩; have n0_ := Aside0.mk (Kd.R_lower ho0 (below_size (by repeat (first | (with_reducible first | exact HB.out | apply below_alloc | apply pw_below_drewN | apply below_drew1) | exact HB.out)))); have n1_ := Aside0.mk (below_step (by repeat (first | (with_reducible first | exact HB.out | apply below_alloc | apply pw_below_drewN | apply below_drew1) | exact HB.out)) hb); clear HB; have HO240 := n0_; have HB := n1_; clear n0_ n1_; (try clear hb); (try clear hb2); (try clear hk); (try clear hi); (try clear ho0); obtain ⟨Ao6, co6, eo6⟩ := Kd.R_slice HO240.out; subst eo6) | ((with_reducible refine gate_callee (f := 25) rfl ?_); refine goesL_ (some 9) rfl rfl Try.func25 (by kernel_rfl) rfl #[.slice Ao6 t238.length co6, .int .u64 a1] rfl (by (try simp only [List.map_toArray, List.map_cons, List.map_nil]); first | done | rfl | (simp only [List.length_drop, List.length_take]; rfl)) ?_; (with_reducible refine (mranges_FindAddrGreaterEqual.calls _ _ t238 a1 t241 t242 _ ?side1 ?side2 A4.out).mono ?_); (case side1 => repeat (first | exact (Kd.R_reads' HO240.out).2.2 | (with_reducible refine Kd.C_alloc ?_ _) | (with_reducible refine Kd.C_drewN ?_ _) | (with_reducible refine Kd.C_drew ?_))); (case side2 => exact (Kd.R_reads' HO240.out).2.1); rintro e w7 ⟨rfl, hb⟩; refine ⟨_, rfl, ?_⟩; have n0_ := Aside0.mk (Kd.R_below (by (with_reducible repeat (first | apply Kd.R_alloc | apply Kd.R_drewN | apply Kd.R_drew)); exact HO240.out) hb); have n1_ := Aside0.mk (below_step (by repeat (first | (with_reducible first | exact HB.out | apply below_alloc | apply pw_below_drewN | apply below_drew1) | exact HB.out)) hb); clear HO240; clear HB; have HO240 := n0_; have HB := n1_; clear n0_ n1_; (try clear hb); (try clear hb2); (try clear hk); (try clear hi)))
  go_ret2
  exact ⟨by first | rfl | (simp [errW_none, errW_some] <;> rfl) | (simp [*, errW_none, errW_some] <;> rfl), by repeat (first | (with_reducible first | exact HB.out | apply below_alloc | apply pw_below_drewN | apply below_drew1) | exact HB.out)⟩

/-! ### impl_InList: function 17 -/
def impl_InList.f (k : Nat) (l0 : List (S35)) (a1 : Int) : Option (Bool) := (impl_given.f k l0).bind fun t243 => ((mranges_InList.f t243 a1).bind fun t246 => (some t246))
theorem impl_InList.mono : ∀ a0 a1 k, LeO (impl_InList.f k a0 a1) (impl_InList.f (k + 1) a0 a1) := by
  intro a0 a1 k
  unfold impl_InList.f
  repeat' first
      | (with_reducible exact impl_given.mono _ _)
      | (with_reducible exact LeO.refl _)
      | (with_reducible exact LeO.none _)
      | (with_reducible refine LeO.ite ?_ ?_)
      | (with_reducible refine LeO.bind ?_ (fun _ => ?_))
      | exact impl_given.mono _ _
      | exact LeO.none _
      | refine LeO.ite ?_ ?_
      | refine LeO.bind ?_ (fun _ => ?_)
set_option maxHeartbeats 8000000 in
set_option maxRecDepth 100000 in
theorem impl_InList.calls (k : Nat) (A0 : Option Addr) (c0 : Nat) (l0 : List (S35)) (a1 : Int) (r : Bool) (w : World) (hr0 : Kd.C k35 w A0 l0.length l0) (hc0 : l0.length ≤ c0) (h : impl_InList.f k l0 a1 = some r) :
    Calls Try.prog 17 #[.slice A0 l0.length c0, .int .u64 a1] w fun e w' => e = .returned (.bool r) ∧ Below w.heap.size w w' := by
  have HR0 := Aside0.mk hr0
  have HC0 := Aside0.mk hc0
  clear hr0 hc0
  have HB := Aside0.mk (Below.refl w.heap.size w)
  have H : ((impl_given.f k l0).bind fun t243 => ((mranges_InList.f t243 a1).bind fun t246 => (some t246))) = some r := h
  clear h
  replace H := Option.bind_eq_some_iff.mp H
  obtain ⟨t243, A30, H⟩ := H
  replace H : ((mranges_InList.f t243 a1).bind fun t246 => (some t246)) = some r := H
  have A3 := Aside0.mk A30
  clear A30
  replace H := Option.bind_eq_some_iff.mp H
  obtain ⟨t246, A40, H⟩ := H
  replace H : (some t246) = some r := H
  have A4 := Aside0.mk A40
  clear A40
  obtain rfl := Option.some.inj H
  go_enter Try.func17, Try.ntmps17
  go_wp2_with (first | ((with_reducible refine gate_callee (f := 20) rfl ?_); refine goesL_ (some 6) rfl rfl Try.func20 (by kernel_rfl) rfl #[.slice A0 l0.length c0] rfl (by (try simp only [List.map_toArray, List.map_cons, List.map_nil]); first | done | rfl | (simp only [List.length_drop, List.length_take]; rfl)) ?_; (with_reducible refine (impl_given.calls k _ _ l0 t243 _ ?side1 ?side2 A3.out).mono ?_); (case side1 => repeat (first | exact HR0.out | (with_reducible refine Kd.C_alloc ?_ _) | (with_reducible refine Kd.C_drewN ?_ _) | (with_reducible refine Kd.C_drew ?_))); (case side2 => exact HC0.out); rintro e w5 ⟨v244, rfl, ho0, hb⟩; refine ⟨_, rfl, ?_⟩; have n0_ := Aside0.mk (Kd.R_lower ho0 (below_size (by repeat (first | (with_reducible first | exact HB.out | apply below_alloc | apply pw_below_drewN | apply below_drew1) | exact HB.out)))); have n1_ := Aside0.mk (below_step (by repeat (first | (with_reducible first | exact HB.out | apply below_alloc | apply pw_below_drewN | apply below_drew1) | exact HB.out)) hb); clear HB; have HO245 := n0_; have HB := n1_; clear n0_ n1_; (try clear hb); (try clear hb2); (try clear hk); (try clear hi); (try clear ho0); obtain ⟨Ao6, co6, eo6⟩ := Kd.R_slice HO245.out; subst eo6) | ((with_reducible refine gate_callee (f := 26) rfl ?_); refine goesL_ (some 8) rfl rfl Try.func26 (by kernel_rfl) rfl #[.slice Ao6 t243.length co6, .int .u64 a1] rfl (by (try simp only [List.map_toArray, List.map_cons, List.map_nil]); first | done | rfl | (simp only [List.length_drop, List.length_take]; rfl)) ?_; (with_reducible refine (mranges_InList.calls _ _ t243 a1 t246 _ ?side1 ?side2 A4.out).mono ?_); (case side1 => repeat (first | exact (Kd.R_reads' HO245.out).2.2 | (with_reducible refine Kd.C_alloc ?_ _) | (with_reducible refine Kd.C_drewN ?_ _) | (with_reducible refine Kd.C_drew ?_))); (case side2 => exact (Kd.R_reads' HO245.out).2.1); rintro e w7 ⟨rfl, hb⟩; refine ⟨_, rfl, ?_⟩; have n0_ := Aside0.mk (Kd.R_below (by (with_reducible repeat (first | apply Kd.R_alloc | apply Kd.R_drewN | apply Kd.R_drew)); exact HO245.out) hb); have n1_ := Aside0.mk (below_step (by repeat (first | (with_reducible first | exact HB.out | apply below_alloc | apply pw_below_drewN | apply below_drew1) | exact HB.out)) hb); clear HO245; clear HB; have HO245 := n0_; have HB := n1_; clear n0_ n1_; (try clear hb); (try clear hb2); (try clear hk); (try clear hi)))
  go_ret
  exact ⟨by first | rfl | (simp [errW_none, errW_some] <;> rfl) | (simp [*, errW_none, errW_some] <;> rfl), by repeat (first | (with_reducible first | exact HB.out | apply below_alloc | apply pw_below_drewN | apply below_drew1) | exact HB.out)⟩

end Go.Proofs.Yticjdbdhnfmidaa.K
