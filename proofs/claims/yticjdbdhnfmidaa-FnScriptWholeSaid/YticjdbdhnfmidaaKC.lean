/- The walks of impl.given and impl.told. (Lines that the kit's print has written for this claim, grouped by assemble.py; hand contracts take the place of what it does not print.) -/
import Derived.Test.YticjdbdhnfmidaaK0
namespace Go.Proofs.Yticjdbdhnfmidaa.K
open Go.RowKit Go.Proofs.YticjdbdhnfmidaaW.PrintWords Go.Proofs.YticjdbdhnfmidaaW.PrintLast Go.Proofs.YticjdbdhnfmidaaW.PrintMore
attribute [local go_sem] max2_int min2_int max_two min_two max_three min_three max_four min_four   -- for this text's walks alone
set_option linter.unusedVariables false
set_option linter.unusedSimpArgs false

/-! ### impl_given: function 20 -/
def impl_given.l0 : Nat → List (S56) → List (S35) → Int → Int → Option ((List (S56)))
  | 0, _, _, _, _ => none
  | k + 1, x3, x6, x7, x8 => if x8 < x7 then (if 0 ≤ x8 then (if x8 < (x6.length : Int) then (if x3.length < 8796093022208 then (impl_given.l0 k (x3 ++ [(⟨(rd_T35 x6 x8).f0, (rd_T35 x6 x8).f1⟩ : S56)]) x6 x7 (wrap64 (x8 + 1))) else (none)) else (none)) else (none)) else (some x3)
def impl_given.f (k : Nat) (l0 : List (S35)) : Option ((List (S56))) := impl_given.l0 k ([] : List (S56)) l0 (l0.length : Int) 0
theorem impl_given.mono_l : ∀ k, (∀ y0 y1 y2 y3, LeO (impl_given.l0 k y0 y1 y2 y3) (impl_given.l0 (k + 1) y0 y1 y2 y3))
  | 0 => fun _ _ _ _ r h => by simp [impl_given.l0] at h
  | k + 1 => by
    have ih0 := impl_given.mono_l k
    · intro y0 y1 y2 y3
      unfold impl_given.l0
      repeat' first
      | (with_reducible exact ih0 _ _ _ _)
      | (with_reducible exact LeO.refl _)
      | (with_reducible exact LeO.none _)
      | (with_reducible refine LeO.ite ?_ ?_)
      | (with_reducible refine LeO.bind ?_ (fun _ => ?_))
      | exact ih0 _ _ _ _
      | exact LeO.none _
      | refine LeO.ite ?_ ?_
      | refine LeO.bind ?_ (fun _ => ?_)
theorem impl_given.mono : ∀ a0 k, LeO (impl_given.f k a0) (impl_given.f (k + 1) a0) := by
  intro a0 k
  have ih0 := impl_given.mono_l k
  unfold impl_given.f
  repeat' first
      | (with_reducible exact ih0 _ _ _ _)
      | (with_reducible exact LeO.refl _)
      | (with_reducible exact LeO.none _)
      | (with_reducible refine LeO.ite ?_ ?_)
      | (with_reducible refine LeO.bind ?_ (fun _ => ?_))
      | exact ih0 _ _ _ _
      | exact LeO.none _
      | refine LeO.ite ?_ ?_
      | refine LeO.bind ?_ (fun _ => ?_)
set_option maxHeartbeats 8000000 in
set_option maxRecDepth 100000 in
theorem impl_given.calls (k : Nat) (A0 : Option Addr) (c0 : Nat) (l0 : List (S35)) (r : List (S56)) (w : World) (hr0 : Kd.C k35 w A0 l0.length l0) (hc0 : l0.length ≤ c0) (h : impl_given.f k l0 = some r) :
    Calls Try.prog 20 #[.slice A0 l0.length c0] w fun e w' => ∃ v0_ : Value, e = .returned (v0_) ∧ Kd.R k56 56 w' w.heap.size (fun _ => True) v0_ r ∧ Below w.heap.size w w' := by
  have hu35 := Try.underlying35
  have HR0 := Aside0.mk hr0
  have HC0 := Aside0.mk hc0
  clear hr0 hc0
  have HB := Aside0.mk (Below.refl w.heap.size w)
  have H : (impl_given.l0 k ([] : List (S56)) l0 (l0.length : Int) 0) = some r := h
  clear h
  have H' := Aside0.mk H
  clear H
  go_enter Try.func20, Try.ntmps20
  go_wp2
  go_loopg [3, 8] k (fun kq v3 v8 w' => ∃ (x3_1 : List (S56)) (x8_1 : Int), v8 = .int .i64 x8_1 ∧ Aside0 (impl_given.l0 kq x3_1 l0 (l0.length : Int) x8_1 = some r) ∧ Aside0 (kq ≤ k) ∧ Aside0 (Kd.R k56 56 w' w.heap.size (fun _ => True) v3 x3_1) ∧ Aside0 (Below w.heap.size w w'))
  case atStart => exact ⟨(([] : List (S56))), (0), (by first | rfl | (simp; done) | (simp [*]; done)), H', ⟨Nat.le_refl _⟩, ⟨by first | exact Kd.R_nil _ _ _ _ _ | exact Kd.N_nil _ _ _ _ _ | exact Kd.V_nil _ _ _ _ _ | exact Kd.Q_nil _ _ _ _ _ | exact Kd.S_nil _ _ _ _ _⟩, ⟨by repeat (first | (with_reducible first | exact HB.out | apply below_alloc | apply pw_below_drewN | apply below_drew1) | exact HB.out)⟩⟩
  case round =>
    clear H'
    obtain ⟨x3_1, x8_1, rfl, HA, HK1, HO_3, HB⟩ := hrel
    cases gk with
    | zero => exact absurd HA.out (by simp [impl_given.l0])
    | succ k1 =>
      have H := HA.out
      clear HA
      simp only [impl_given.l0] at H
      by_cases c2 : x8_1 < (l0.length : Int)
      · rw [if_pos c2] at H
        have c2b0 : decide (x8_1 < (l0.length : Int)) = true := decide_eq_true c2
        clear c2
        by_cases c3 : 0 ≤ x8_1
        · rw [if_pos c3] at H
          have c3b0 : decide (0 ≤ x8_1) = true := decide_eq_true c3
          clear c3
          by_cases c4 : x8_1 < (l0.length : Int)
          · rw [if_pos c4] at H
            have c4b0 : decide (x8_1 < (l0.length : Int)) = true := decide_eq_true c4
            clear c4
            by_cases c5 : x3_1.length < 8796093022208
            · rw [if_pos c5] at H
              have LMc5 := Aside0.mk c5
              clear c5
              obtain ⟨y152, hy152⟩ : ∃ y_ : List (S56), y_ = (x3_1 ++ [(⟨(rd_T35 l0 x8_1).f0, (rd_T35 l0 x8_1).f1⟩ : S56)]) := ⟨_, rfl⟩
              replace H : (impl_given.l0 k1 y152 l0 (l0.length : Int) (wrap64 (x8_1 + 1))) = some r := by first | (rw [hy152]; with_reducible exact H) | (have H2_ := (Option.bind_some _ _).symm.trans H; rw [hy152]; with_reducible exact H2_) | (have H2_ := (Option.bind_some _ _).symm.trans H; with_reducible exact H2_) | with_reducible exact H | (rw [hy152]; exact H) | exact H
              have Ny152 := Aside0.mk hy152
              clear hy152
              have H' := Aside0.mk H
              clear H
              have p150 : 0 ≤ (x8_1 : Int) := of_decide_eq_true (by first | (with_reducible assumption) | assumption)
              have q150 : x8_1 < (l0.length : Int) := of_decide_eq_true (by first | (with_reducible assumption) | assumption)
              obtain ⟨ad150, e150, hx150_0, hx150_1⟩ := at_T35 HR0.out x8_1 p150 q150
              cases e150
              replace hx150_0 := (HB.out.cell (World.block_lt_of_cell? w _ hx150_0)).trans hx150_0
              replace hx150_1 := (HB.out.cell (World.block_lt_of_cell? w _ hx150_1)).trans hx150_1
              replace p150 := eq_true p150
              replace q150 := eq_true q150
              go_wp2_with (first | ((with_reducible refine gate_dst (N := 5) rfl ?_); refine box_event ?hg (N := 5) ?hd (cs := #[.int .u64 0, .int .u64 0]) (t := 35) ?hr ?_; (case hd => rfl); (case hg => rfl); (case hr => first | (go_simp; done) | (go_simp; rfl)); intro gb151 hg w6 hbox hb; have n0_ := Aside0.mk (Kd.R_below (by (with_reducible repeat (first | apply Kd.R_alloc | apply Kd.R_drewN | apply Kd.R_drew)); exact HO_3.out) hb); have n1_ := Aside0.mk (below_step (by repeat (first | (with_reducible first | exact HB.out | apply below_alloc | apply pw_below_drewN | apply below_drew1) | exact HB.out)) hb); have n2_ := Aside0.mk (hbox); have n3_ := Aside0.mk ((by rw [hg]; exact (below_size (by repeat (first | (with_reducible first | exact HB.out | apply below_alloc | apply pw_below_drewN | apply below_drew1) | exact HB.out))) : w.heap.size ≤ gb151)); have n4_ := Aside0.mk ((by rw [hg]; exact (below_size (by repeat (first | (with_reducible first | exact HB.out | apply below_alloc | apply pw_below_drewN | apply below_drew1) | exact HB.out))) : w.heap.size ≤ gb151)); clear HO_3; clear HB; have HO_3 := n0_; have HB := n1_; have BK151 := n2_; have GW151 := n3_; have GE151 := n4_; clear n0_ n1_ n2_ n3_ n4_; clear hb hbox hg; have hcz7_0 : w6.cell? ⟨gb151, 0, none⟩ = some (.int .u64 0) := (blk_cell BK151.out 0).trans rfl; have hcz7_1 : w6.cell? ⟨gb151, 1, none⟩ = some (.int .u64 0) := (blk_cell BK151.out 1).trans rfl; have hfz7_0 := blk_frozen BK151.out 0; have hfz7_1 := blk_frozen BK151.out 1) | ((with_reducible refine gate_builtin (b := .append) (xs := #[.tmp 12, .tmp 14]) rfl ?_); at_builtin; refine Kd.R_append k56 (w0 := w) w.heap.size rfl (.tmp 12) (.tmp 14) 52 56 (.agg #[(.int .u64 0), (.int .u64 0)]) 16 rfl Try.underlying52 info56 rfl (by decide) (by omega) u3 x3_1 (⟨(rd_T35 l0 x8_1).f0, (rd_T35 l0 x8_1).f1⟩ : S56) [.int .u64 ((rd_T35 l0 x8_1).f0), .int .u64 ((rd_T35 l0 x8_1).f1)] (fun _ => True) (fun _ => False) rfl (by first | (go_simp; done) | (go_simp; rfl)) ?aP (fun _ hk => hk.elim) ?aF ?aO ?aB ?aS ?aL ?_; (case aP => exact k56_mkM _ _ _ (⟨(rd_T35 l0 x8_1).f0, (rd_T35 l0 x8_1).f1⟩ : S56)); (case aB => exact (by repeat (first | (with_reducible first | exact HB.out | apply below_alloc | apply pw_below_drewN | apply below_drew1 | refine below_set ?_ GE151.out) | exact HB.out))); (case aF => exact (fun _ _ => trivial)); (case aO => exact (by (with_reducible repeat (first | apply Kd.R_alloc | apply Kd.R_drewN | apply Kd.R_drew)); exact Kd.R_mono (Kd.R_far (p := ⟨gb151, 1, none⟩) (Kd.R_far (p := ⟨gb151, 0, none⟩) (Kd.R_types HO_3.out BK151.out (by decide)) (fun _ hk => hk.2) (.int .u64 ((rd_T35 l0 x8_1).f0))) (fun _ hk => hk.2) (.int .u64 ((rd_T35 l0 x8_1).f1))) (fun _ hk => trivial))); (case aS => exact (below_size (by repeat (first | (with_reducible first | exact HB.out | apply below_alloc | apply pw_below_drewN | apply below_drew1 | refine below_set ?_ GE151.out) | exact HB.out)))); (case aL => have := LMc5.out; omega); intro v153 w8 ho hb hg hat; rw [← Ny152.out] at ho; have n0_ := Aside0.mk (blk_grown (g := gb151) (o := .cells #[.int .u64 ((rd_T35 l0 x8_1).f0), .int .u64 ((rd_T35 l0 x8_1).f1)] 35 (0, 0)) (by (with_reducible repeat (first | refine blk_drewN ?_ _ | refine blk_drew ?_ | refine blk_alloc ?_ _)); refine blk_put (cs := #[.int .u64 ((rd_T35 l0 x8_1).f0), .int .u64 0]) ?_ 1 _ rfl; (with_reducible repeat (first | refine blk_drewN ?_ _ | refine blk_drew ?_ | refine blk_alloc ?_ _)); refine blk_put (cs := #[.int .u64 0, .int .u64 0]) ?_ 0 _ rfl; (with_reducible repeat (first | refine blk_drewN ?_ _ | refine blk_drew ?_ | refine blk_alloc ?_ _)); exact BK151.out) hg (Kd.R_ne HO_3.out BK151.out (by decide))); have n1_ := Aside0.mk (hb); have n2_ := Aside0.mk (ho); clear BK151; clear HB; clear HO_3; have BK151 := n0_; have HB := n1_; have HO154 := n2_; clear n0_ n1_ n2_; clear ho hb hg hat))
              go_roundg k1
              case measure => have := HK1.out; omega
              case rel => exact ⟨(y152), (wrap64 (x8_1 + 1)), (by first | rfl | (simp; done) | (simp [*]; done)), H', ⟨by have := HK1.out; omega⟩, ⟨by (with_reducible repeat (first | apply Kd.R_alloc | apply Kd.R_drewN | apply Kd.R_drew)); exact HO154.out⟩, ⟨by repeat (first | (with_reducible first | exact HB.out | apply below_alloc | apply pw_below_drewN | apply below_drew1 | refine below_set ?_ GE151.out) | exact HB.out)⟩⟩
            · rw [if_neg c5] at H
              exact absurd H (by simp)
          · rw [if_neg c4] at H
            exact absurd H (by simp)
        · rw [if_neg c3] at H
          exact absurd H (by simp)
      · rw [if_neg c2] at H
        have c2b0 : decide (x8_1 < (l0.length : Int)) = false := decide_eq_false c2
        clear c2
        obtain rfl := Option.some.inj H
        go_wp2
        go_ret
        exact ⟨_, by first | rfl | (simp [errW_none, errW_some] <;> rfl) | (simp [*, errW_none, errW_some] <;> rfl), by (with_reducible repeat (first | apply Kd.R_alloc | apply Kd.R_drewN | apply Kd.R_drew)); exact HO_3.out, by repeat (first | (with_reducible first | exact HB.out | apply below_alloc | apply pw_below_drewN | apply below_drew1) | exact HB.out)⟩

/-! ### impl_told: function 21 -/
def impl_told.l0 : Nat → List (S35) → List (S56) → Int → Int → Option ((List (S35)))
  | 0, _, _, _, _ => none
  | k + 1, x3, x6, x7, x8 => if x8 < x7 then (if 0 ≤ x8 then (if x8 < (x6.length : Int) then (if x3.length < 8796093022208 then (impl_told.l0 k (x3 ++ [(⟨(rd_T56 x6 x8).f0, (rd_T56 x6 x8).f1⟩ : S35)]) x6 x7 (wrap64 (x8 + 1))) else (none)) else (none)) else (none)) else (some x3)
def impl_told.f (k : Nat) (l0 : List (S56)) : Option ((List (S35))) := impl_told.l0 k ([] : List (S35)) l0 (l0.length : Int) 0
theorem impl_told.mono_l : ∀ k, (∀ y0 y1 y2 y3, LeO (impl_told.l0 k y0 y1 y2 y3) (impl_told.l0 (k + 1) y0 y1 y2 y3))
  | 0 => fun _ _ _ _ r h => by simp [impl_told.l0] at h
  | k + 1 => by
    have ih0 := impl_told.mono_l k
    · intro y0 y1 y2 y3
      unfold impl_told.l0
      repeat' first
      | (with_reducible exact ih0 _ _ _ _)
      | (with_reducible exact LeO.refl _)
      | (with_reducible exact LeO.none _)
      | (with_reducible refine LeO.ite ?_ ?_)
      | (with_reducible refine LeO.bind ?_ (fun _ => ?_))
      | exact ih0 _ _ _ _
      | exact LeO.none _
      | refine LeO.ite ?_ ?_
      | refine LeO.bind ?_ (fun _ => ?_)
theorem impl_told.mono : ∀ a0 k, LeO (impl_told.f k a0) (impl_told.f (k + 1) a0) := by
  intro a0 k
  have ih0 := impl_told.mono_l k
  unfold impl_told.f
  repeat' first
      | (with_reducible exact ih0 _ _ _ _)
      | (with_reducible exact LeO.refl _)
      | (with_reducible exact LeO.none _)
      | (with_reducible refine LeO.ite ?_ ?_)
      | (with_reducible refine LeO.bind ?_ (fun _ => ?_))
      | exact ih0 _ _ _ _
      | exact LeO.none _
      | refine LeO.ite ?_ ?_
      | refine LeO.bind ?_ (fun _ => ?_)
set_option maxHeartbeats 8000000 in
set_option maxRecDepth 100000 in
theorem impl_told.calls (k : Nat) (A0 : Option Addr) (c0 : Nat) (l0 : List (S56)) (r : List (S35)) (w : World) (hr0 : Kd.C k56 w A0 l0.length l0) (hc0 : l0.length ≤ c0) (h : impl_told.f k l0 = some r) :
    Calls Try.prog 21 #[.slice A0 l0.length c0] w fun e w' => ∃ v0_ : Value, e = .returned (v0_) ∧ Kd.R k35 35 w' w.heap.size (fun _ => True) v0_ r ∧ Below w.heap.size w w' := by
  have hu56 := Try.underlying56
  have HR0 := Aside0.mk hr0
  have HC0 := Aside0.mk hc0
  clear hr0 hc0
  have HB := Aside0.mk (Below.refl w.heap.size w)
  have H : (impl_told.l0 k ([] : List (S35)) l0 (l0.length : Int) 0) = some r := h
  clear h
  have H' := Aside0.mk H
  clear H
  go_enter Try.func21, Try.ntmps21
  go_wp2
  go_loopg [3, 8] k (fun kq v3 v8 w' => ∃ (x3_1 : List (S35)) (x8_1 : Int), v8 = .int .i64 x8_1 ∧ Aside0 (impl_told.l0 kq x3_1 l0 (l0.length : Int) x8_1 = some r) ∧ Aside0 (kq ≤ k) ∧ Aside0 (Kd.R k35 35 w' w.heap.size (fun _ => True) v3 x3_1) ∧ Aside0 (Below w.heap.size w w'))
  case atStart => exact ⟨(([] : List (S35))), (0), (by first | rfl | (simp; done) | (simp [*]; done)), H', ⟨Nat.le_refl _⟩, ⟨by first | exact Kd.R_nil _ _ _ _ _ | exact Kd.N_nil _ _ _ _ _ | exact Kd.V_nil _ _ _ _ _ | exact Kd.Q_nil _ _ _ _ _ | exact Kd.S_nil _ _ _ _ _⟩, ⟨by repeat (first | (with_reducible first | exact HB.out | apply below_alloc | apply pw_below_drewN | apply below_drew1) | exact HB.out)⟩⟩
  case round =>
    clear H'
    obtain ⟨x3_1, x8_1, rfl, HA, HK1, HO_3, HB⟩ := hrel
    cases gk with
    | zero => exact absurd HA.out (by simp [impl_told.l0])
    | succ k1 =>
      have H := HA.out
      clear HA
      simp only [impl_told.l0] at H
      by_cases c2 : x8_1 < (l0.length : Int)
      · rw [if_pos c2] at H
        have c2b0 : decide (x8_1 < (l0.length : Int)) = true := decide_eq_true c2
        clear c2
        by_cases c3 : 0 ≤ x8_1
        · rw [if_pos c3] at H
          have c3b0 : decide (0 ≤ x8_1) = true := decide_eq_true c3
          clear c3
          by_cases c4 : x8_1 < (l0.length : Int)
          · rw [if_pos c4] at H
            have c4b0 : decide (x8_1 < (l0.length : Int)) = true := decide_eq_true c4
            clear c4
            by_cases c5 : x3_1.length < 8796093022208
            · rw [if_pos c5] at H
              have LMc5 := Aside0.mk c5
              clear c5
              obtain ⟨y157, hy157⟩ : ∃ y_ : List (S35), y_ = (x3_1 ++ [(⟨(rd_T56 l0 x8_1).f0, (rd_T56 l0 x8_1).f1⟩ : S35)]) := ⟨_, rfl⟩
              replace H : (impl_told.l0 k1 y157 l0 (l0.length : Int) (wrap64 (x8_1 + 1))) = some r := by first | (rw [hy157]; with_reducible exact H) | (have H2_ := (Option.bind_some _ _).symm.trans H; rw [hy157]; with_reducible exact H2_) | (have H2_ := (Option.bind_some _ _).symm.trans H; with_reducible exact H2_) | with_reducible exact H | (rw [hy157]; exact H) | exact H
              have Ny157 := Aside0.mk hy157
              clear hy157
              have H' := Aside0.mk H
              clear H
              have p155 : 0 ≤ (x8_1 : Int) := of_decide_eq_true (by first | (with_reducible assumption) | assumption)
              have q155 : x8_1 < (l0.length : Int) := of_decide_eq_true (by first | (with_reducible assumption) | assumption)
              obtain ⟨ad155, e155, hx155_0, hx155_1⟩ := at_T56 HR0.out x8_1 p155 q155
              cases e155
              replace hx155_0 := (HB.out.cell (World.block_lt_of_cell? w _ hx155_0)).trans hx155_0
              replace hx155_1 := (HB.out.cell (World.block_lt_of_cell? w _ hx155_1)).trans hx155_1
              replace p155 := eq_true p155
              replace q155 := eq_true q155
              go_wp2_with (first | ((with_reducible refine gate_dst (N := 5) rfl ?_); refine box_event ?hg (N := 5) ?hd (cs := #[.int .u64 0, .int .u64 0]) (t := 56) ?hr ?_; (case hd => rfl); (case hg => rfl); (case hr => first | (go_simp; done) | (go_simp; rfl)); intro gb156 hg w6 hbox hb; have n0_ := Aside0.mk (Kd.R_below (by (with_reducible repeat (first | apply Kd.R_alloc | apply Kd.R_drewN | apply Kd.R_drew)); exact HO_3.out) hb); have n1_ := Aside0.mk (below_step (by repeat (first | (with_reducible first | exact HB.out | apply below_alloc | apply pw_below_drewN | apply below_drew1) | exact HB.out)) hb); have n2_ := Aside0.mk (hbox); have n3_ := Aside0.mk ((by rw [hg]; exact (below_size (by repeat (first | (with_reducible first | exact HB.out | apply below_alloc | apply pw_below_drewN | apply below_drew1) | exact HB.out))) : w.heap.size ≤ gb156)); have n4_ := Aside0.mk ((by rw [hg]; exact (below_size (by repeat (first | (with_reducible first | exact HB.out | apply below_alloc | apply pw_below_drewN | apply below_drew1) | exact HB.out))) : w.heap.size ≤ gb156)); clear HO_3; clear HB; have HO_3 := n0_; have HB := n1_; have BK156 := n2_; have GW156 := n3_; have GE156 := n4_; clear n0_ n1_ n2_ n3_ n4_; clear hb hbox hg; have hcz7_0 : w6.cell? ⟨gb156, 0, none⟩ = some (.int .u64 0) := (blk_cell BK156.out 0).trans rfl; have hcz7_1 : w6.cell? ⟨gb156, 1, none⟩ = some (.int .u64 0) := (blk_cell BK156.out 1).trans rfl; have hfz7_0 := blk_frozen BK156.out 0; have hfz7_1 := blk_frozen BK156.out 1) | ((with_reducible refine gate_builtin (b := .append) (xs := #[.tmp 12, .tmp 14]) rfl ?_); at_builtin; refine Kd.R_append k35 (w0 := w) w.heap.size rfl (.tmp 12) (.tmp 14) 24 35 (.agg #[(.int .u64 0), (.int .u64 0)]) 16 rfl Try.underlying24 info35 rfl (by decide) (by omega) u3 x3_1 (⟨(rd_T56 l0 x8_1).f0, (rd_T56 l0 x8_1).f1⟩ : S35) [.int .u64 ((rd_T56 l0 x8_1).f0), .int .u64 ((rd_T56 l0 x8_1).f1)] (fun _ => True) (fun _ => False) rfl (by first | (go_simp; done) | (go_simp; rfl)) ?aP (fun _ hk => hk.elim) ?aF ?aO ?aB ?aS ?aL ?_; (case aP => exact k35_mkM _ _ _ (⟨(rd_T56 l0 x8_1).f0, (rd_T56 l0 x8_1).f1⟩ : S35)); (case aB => exact (by repeat (first | (with_reducible first | exact HB.out | apply below_alloc | apply pw_below_drewN | apply below_drew1 | refine below_set ?_ GE156.out) | exact HB.out))); (case aF => exact (fun _ _ => trivial)); (case aO => exact (by (with_reducible repeat (first | apply Kd.R_alloc | apply Kd.R_drewN | apply Kd.R_drew)); exact Kd.R_mono (Kd.R_far (p := ⟨gb156, 1, none⟩) (Kd.R_far (p := ⟨gb156, 0, none⟩) (Kd.R_types HO_3.out BK156.out (by decide)) (fun _ hk => hk.2) (.int .u64 ((rd_T56 l0 x8_1).f0))) (fun _ hk => hk.2) (.int .u64 ((rd_T56 l0 x8_1).f1))) (fun _ hk => trivial))); (case aS => exact (below_size (by repeat (first | (with_reducible first | exact HB.out | apply below_alloc | apply pw_below_drewN | apply below_drew1 | refine below_set ?_ GE156.out) | exact HB.out)))); (case aL => have := LMc5.out; omega); intro v158 w8 ho hb hg hat; rw [← Ny157.out] at ho; have n0_ := Aside0.mk (blk_grown (g := gb156) (o := .cells #[.int .u64 ((rd_T56 l0 x8_1).f0), .int .u64 ((rd_T56 l0 x8_1).f1)] 56 (0, 0)) (by (with_reducible repeat (first | refine blk_drewN ?_ _ | refine blk_drew ?_ | refine blk_alloc ?_ _)); refine blk_put (cs := #[.int .u64 ((rd_T56 l0 x8_1).f0), .int .u64 0]) ?_ 1 _ rfl; (with_reducible repeat (first | refine blk_drewN ?_ _ | refine blk_drew ?_ | refine blk_alloc ?_ _)); refine blk_put (cs := #[.int .u64 0, .int .u64 0]) ?_ 0 _ rfl; (with_reducible repeat (first | refine blk_drewN ?_ _ | refine blk_drew ?_ | refine blk_alloc ?_ _)); exact BK156.out) hg (Kd.R_ne HO_3.out BK156.out (by decide))); have n1_ := Aside0.mk (hb); have n2_ := Aside0.mk (ho); clear BK156; clear HB; clear HO_3; have BK156 := n0_; have HB := n1_; have HO159 := n2_; clear n0_ n1_ n2_; clear ho hb hg hat))
              go_roundg k1
              case measure => have := HK1.out; omega
              case rel => exact ⟨(y157), (wrap64 (x8_1 + 1)), (by first | rfl | (simp; done) | (simp [*]; done)), H', ⟨by have := HK1.out; omega⟩, ⟨by (with_reducible repeat (first | apply Kd.R_alloc | apply Kd.R_drewN | apply Kd.R_drew)); exact HO159.out⟩, ⟨by repeat (first | (with_reducible first | exact HB.out | apply below_alloc | apply pw_below_drewN | apply below_drew1 | refine below_set ?_ GE156.out) | exact HB.out)⟩⟩
            · rw [if_neg c5] at H
              exact absurd H (by simp)
          · rw [if_neg c4] at H
            exact absurd H (by simp)
        · rw [if_neg c3] at H
          exact absurd H (by simp)
      · rw [if_neg c2] at H
        have c2b0 : decide (x8_1 < (l0.length : Int)) = false := decide_eq_false c2
        clear c2
        obtain rfl := Option.some.inj H
        go_wp2
        go_ret
        exact ⟨_, by first | rfl | (simp [errW_none, errW_some] <;> rfl) | (simp [*, errW_none, errW_some] <;> rfl), by (with_reducible repeat (first | apply Kd.R_alloc | apply Kd.R_drewN | apply Kd.R_drew)); exact HO_3.out, by repeat (first | (with_reducible first | exact HB.out | apply below_alloc | apply pw_below_drewN | apply below_drew1) | exact HB.out)⟩

end Go.Proofs.Yticjdbdhnfmidaa.K
