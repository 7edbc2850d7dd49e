/- The walks of the small functions of addresses and ranges. (Lines that the kit's print has written for this claim, grouped by assemble.py; hand contracts take the place of what it does not print.) -/
import Derived.Test.YticjdbdhnfmidaaK0
namespace Go.Proofs.Yticjdbdhnfmidaa.K
open Go.RowKit Go.Proofs.YticjdbdhnfmidaaW.PrintWords Go.Proofs.YticjdbdhnfmidaaW.PrintLast Go.Proofs.YticjdbdhnfmidaaW.PrintMore
attribute [local go_sem] max2_int min2_int max_two min_two max_three min_three max_four min_four   -- for this text's walks alone
set_option linter.unusedVariables false
set_option linter.unusedSimpArgs false

theorem eqA69 (d : Nat) (w : World) (x0 y0 : Int) :
    (Op.equalIn (d + 2) 69 (.agg #[.int .u64 x0]) (.agg #[.int .u64 y0])).run Try.prog w = .ok (x0 == y0) w := by
  refine eqA_of Try.underlying69 (by kernel_rfl) ?_
  exact eqf_last (by rfl) (by go_simp; rfl) (by go_simp; rfl) (by go_simp)

/-! ### mranges_in: function 30 -/
def mranges_in.f (a0_0 : Int) (a0_1 : Int) : Option (Int × Int) := some (a0_0, a0_1)
set_option maxHeartbeats 8000000 in
set_option maxRecDepth 100000 in
theorem mranges_in.calls (a0_0 : Int) (a0_1 : Int) (r1 : Int) (r2 : Int) (w : World) (h : mranges_in.f a0_0 a0_1 = some (r1, r2)) :
    Calls Try.prog 30 #[.agg #[.int .u64 a0_0, .int .u64 a0_1]] w fun e w' => e = .returned (.agg #[.int .u64 r1, .int .u64 r2]) ∧ Below w.heap.size w w' := by
  have hu56 := Try.underlying56
  have hu71 := Try.underlying71
  have hu69 := Try.underlying69
  have HB := Aside0.mk (Below.refl w.heap.size w)
  have H : (some (a0_0, a0_1)) = some (r1, r2) := h
  clear h
  simp only [Option.some.injEq, Prod.mk.injEq] at H
  obtain ⟨rfl, rfl⟩ := H
  go_enter Try.func30, Try.ntmps30
  go_wp2_with (first | ((with_reducible refine gate_dst (N := 1) rfl ?_); refine box_event ?hg (N := 1) ?hd (cs := #[.int .u64 a0_0, .int .u64 a0_1]) (t := 56) ?hr ?_; (case hd => rfl); (case hg => rfl); (case hr => first | (go_simp; done) | (go_simp; rfl)); intro gb112 hg w2 hbox hb; have n0_ := Aside0.mk (below_step (by repeat (first | (with_reducible first | exact HB.out | apply below_alloc | apply pw_below_drewN | apply below_drew1) | exact HB.out)) hb); have n1_ := Aside0.mk (hbox); have n2_ := Aside0.mk ((by rw [hg]; exact (below_size (by repeat (first | (with_reducible first | exact HB.out | apply below_alloc | apply pw_below_drewN | apply below_drew1) | exact HB.out))) : w.heap.size ≤ gb112)); have n3_ := Aside0.mk ((by rw [hg]; exact (below_size (by repeat (first | (with_reducible first | exact HB.out | apply below_alloc | apply pw_below_drewN | apply below_drew1) | exact HB.out))) : w.heap.size ≤ gb112)); clear HB; have HB := n0_; have BK112 := n1_; have GW112 := n2_; have GE112 := n3_; clear n0_ n1_ n2_ n3_; clear hb hbox hg) | ((with_reducible refine gate_dst (N := 2) rfl ?_); refine box_event ?hg (N := 2) ?hd (cs := #[.int .u64 0, .int .u64 0]) (t := 71) ?hr ?_; (case hd => rfl); (case hg => rfl); (case hr => first | (go_simp; done) | (go_simp; rfl)); intro gb113 hg w3 hbox hb; have n0_ := Aside0.mk (blk_below (g := gb112) (o := .cells #[.int .u64 a0_0, .int .u64 a0_1] 56 (0, 0)) (by (with_reducible repeat (first | refine blk_drewN ?_ _ | refine blk_drew ?_ | refine blk_alloc ?_ _)); exact BK112.out) hb); have n1_ := Aside0.mk (below_step (by repeat (first | (with_reducible first | exact HB.out | apply below_alloc | apply pw_below_drewN | apply below_drew1 | refine below_set ?_ GE112.out) | exact HB.out)) hb); have n2_ := Aside0.mk (hbox); have n3_ := Aside0.mk ((by rw [hg]; exact (below_size (by repeat (first | (with_reducible first | exact HB.out | apply below_alloc | apply pw_below_drewN | apply below_drew1 | refine below_set ?_ GE112.out) | exact HB.out))) : w.heap.size ≤ gb113)); have n4_ := Aside0.mk ((by rw [hg]; exact (below_size (by repeat (first | (with_reducible first | exact HB.out | apply below_alloc | apply pw_below_drewN | apply below_drew1 | refine below_set ?_ GE112.out) | exact HB.out))) : w.heap.size ≤ gb113)); have n5_ := Aside0.mk ((by rw [hg]; exact Nat.ne_of_lt (blk_lt (g := gb112) (o := .cells #[.int .u64 a0_0, .int .u64 a0_1] 56 (0, 0)) (by (with_reducible repeat (first | refine blk_drewN ?_ _ | refine blk_drew ?_ | refine blk_alloc ?_ _)); exact BK112.out)) : gb112 ≠ gb113)); have n6_ := Aside0.mk ((by rw [hg]; exact Nat.ne_of_gt (blk_lt (g := gb112) (o := .cells #[.int .u64 a0_0, .int .u64 a0_1] 56 (0, 0)) (by (with_reducible repeat (first | refine blk_drewN ?_ _ | refine blk_drew ?_ | refine blk_alloc ?_ _)); exact BK112.out)) : gb113 ≠ gb112)); clear BK112; clear HB; have BK112 := n0_; have HB := n1_; have BK113 := n2_; have GW113 := n3_; have GE113 := n4_; have NB112_113 := n5_; have NB113_112 := n6_; clear n0_ n1_ n2_ n3_ n4_ n5_ n6_; clear hb hbox hg; have hnb4 := NB112_113.out; have hnc4 := NB113_112.out; have hcz5_0 : w3.cell? ⟨gb112, 0, none⟩ = some (.int .u64 a0_0) := (blk_cell BK112.out 0).trans rfl; have hcz5_1 : w3.cell? ⟨gb112, 1, none⟩ = some (.int .u64 a0_1) := (blk_cell BK112.out 1).trans rfl; have hfz5_0 := blk_frozen BK112.out 0; have hfz5_1 := blk_frozen BK112.out 1; have hcz6_0 : w3.cell? ⟨gb113, 0, none⟩ = some (.int .u64 0) := (blk_cell BK113.out 0).trans rfl; have hcz6_1 : w3.cell? ⟨gb113, 1, none⟩ = some (.int .u64 0) := (blk_cell BK113.out 1).trans rfl; have hfz6_0 := blk_frozen BK113.out 0; have hfz6_1 := blk_frozen BK113.out 1))
  refine bodyPost_ret (results_cell_row rfl _ _ gb113 71 #[.int .u64 a0_0, .int .u64 a0_1] (0, 0) _ rfl (by (with_reducible repeat (first | refine blk_drewN ?_ _ | refine blk_drew ?_ | refine blk_alloc ?_ _)); refine blk_put (cs := #[.int .u64 a0_0, .int .u64 0]) ?_ 1 _ rfl; (with_reducible repeat (first | refine blk_drewN ?_ _ | refine blk_drew ?_ | refine blk_alloc ?_ _)); refine blk_put (cs := #[.int .u64 0, .int .u64 0]) ?_ 0 _ rfl; (with_reducible repeat (first | refine blk_drewN ?_ _ | refine blk_drew ?_ | refine blk_alloc ?_ _)); exact BK113.out) Try.underlying71 rfl (by kernel_rfl)) rfl ?_
  exact ⟨by first | rfl | (simp [errW_none, errW_some] <;> rfl) | (simp [*, errW_none, errW_some] <;> rfl), by repeat (first | (with_reducible first | exact HB.out | apply below_alloc | apply pw_below_drewN | apply below_drew1 | refine below_set ?_ GE112.out | refine below_set ?_ GE113.out) | exact HB.out)⟩

/-! ### mranges_offAddr_lessThan: function 45 -/
def mranges_offAddr_lessThan.f (a0_0 : Int) (a1_0 : Int) : Option (Bool) := some (decide ((IntKind.u64.wrap (a0_0 - 18446603336221196288)) < (IntKind.u64.wrap (a1_0 - 18446603336221196288))))
set_option maxHeartbeats 8000000 in
set_option maxRecDepth 100000 in
theorem mranges_offAddr_lessThan.calls (a0_0 : Int) (a1_0 : Int) (r : Bool) (w : World) (h : mranges_offAddr_lessThan.f a0_0 a1_0 = some r) :
    Calls Try.prog 45 #[.agg #[.int .u64 a0_0], .agg #[.int .u64 a1_0]] w fun e w' => e = .returned (.bool r) ∧ Below w.heap.size w w' := by
  have hu69 := Try.underlying69
  have HB := Aside0.mk (Below.refl w.heap.size w)
  have H : (some (decide ((IntKind.u64.wrap (a0_0 - 18446603336221196288)) < (IntKind.u64.wrap (a1_0 - 18446603336221196288))))) = some r := h
  clear h
  obtain rfl := Option.some.inj H
  go_enter Try.func45, Try.ntmps45
  go_wp2_with (first | ((with_reducible refine gate_dst (N := 2) rfl ?_); refine box_event ?hg (N := 2) ?hd (cs := #[.int .u64 a0_0]) (t := 69) ?hr ?_; (case hd => rfl); (case hg => rfl); (case hr => first | (go_simp; done) | (go_simp; rfl)); intro gb114 hg w3 hbox hb; have n0_ := Aside0.mk (below_step (by repeat (first | (with_reducible first | exact HB.out | apply below_alloc | apply pw_below_drewN | apply below_drew1) | exact HB.out)) hb); have n1_ := Aside0.mk (hbox); have n2_ := Aside0.mk ((by rw [hg]; exact (below_size (by repeat (first | (with_reducible first | exact HB.out | apply below_alloc | apply pw_below_drewN | apply below_drew1) | exact HB.out))) : w.heap.size ≤ gb114)); have n3_ := Aside0.mk ((by rw [hg]; exact (below_size (by repeat (first | (with_reducible first | exact HB.out | apply below_alloc | apply pw_below_drewN | apply below_drew1) | exact HB.out))) : w.heap.size ≤ gb114)); clear HB; have HB := n0_; have BK114 := n1_; have GW114 := n2_; have GE114 := n3_; clear n0_ n1_ n2_ n3_; clear hb hbox hg) | ((with_reducible refine gate_dst (N := 3) rfl ?_); refine box_event ?hg (N := 3) ?hd (cs := #[.int .u64 a1_0]) (t := 69) ?hr ?_; (case hd => rfl); (case hg => rfl); (case hr => first | (go_simp; done) | (go_simp; rfl)); intro gb115 hg w4 hbox hb; have n0_ := Aside0.mk (blk_below (g := gb114) (o := .cells #[.int .u64 a0_0] 69 (0, 0)) (by (with_reducible repeat (first | refine blk_drewN ?_ _ | refine blk_drew ?_ | refine blk_alloc ?_ _)); exact BK114.out) hb); have n1_ := Aside0.mk (below_step (by repeat (first | (with_reducible first | exact HB.out | apply below_alloc | apply pw_below_drewN | apply below_drew1 | refine below_set ?_ GE114.out) | exact HB.out)) hb); have n2_ := Aside0.mk (hbox); have n3_ := Aside0.mk ((by rw [hg]; exact (below_size (by repeat (first | (with_reducible first | exact HB.out | apply below_alloc | apply pw_below_drewN | apply below_drew1 | refine below_set ?_ GE114.out) | exact HB.out))) : w.heap.size ≤ gb115)); have n4_ := Aside0.mk ((by rw [hg]; exact (below_size (by repeat (first | (with_reducible first | exact HB.out | apply below_alloc | apply pw_below_drewN | apply below_drew1 | refine below_set ?_ GE114.out) | exact HB.out))) : w.heap.size ≤ gb115)); have n5_ := Aside0.mk ((by rw [hg]; exact Nat.ne_of_lt (blk_lt (g := gb114) (o := .cells #[.int .u64 a0_0] 69 (0, 0)) (by (with_reducible repeat (first | refine blk_drewN ?_ _ | refine blk_drew ?_ | refine blk_alloc ?_ _)); exact BK114.out)) : gb114 ≠ gb115)); have n6_ := Aside0.mk ((by rw [hg]; exact Nat.ne_of_gt (blk_lt (g := gb114) (o := .cells #[.int .u64 a0_0] 69 (0, 0)) (by (with_reducible repeat (first | refine blk_drewN ?_ _ | refine blk_drew ?_ | refine blk_alloc ?_ _)); exact BK114.out)) : gb115 ≠ gb114)); clear BK114; clear HB; have BK114 := n0_; have HB := n1_; have BK115 := n2_; have GW115 := n3_; have GE115 := n4_; have NB114_115 := n5_; have NB115_114 := n6_; clear n0_ n1_ n2_ n3_ n4_ n5_ n6_; clear hb hbox hg; have hnb5 := NB114_115.out; have hnc5 := NB115_114.out; have hcz6_0 : w4.cell? ⟨gb114, 0, none⟩ = some (.int .u64 a0_0) := (blk_cell BK114.out 0).trans rfl; have hfz6_0 := blk_frozen BK114.out 0; have hcz7_0 : w4.cell? ⟨gb115, 0, none⟩ = some (.int .u64 a1_0) := (blk_cell BK115.out 0).trans rfl; have hfz7_0 := blk_frozen BK115.out 0))
  go_ret
  exact ⟨by first | rfl | (simp [errW_none, errW_some] <;> rfl) | (simp [*, errW_none, errW_some] <;> rfl), by repeat (first | (with_reducible first | exact HB.out | apply below_alloc | apply pw_below_drewN | apply below_drew1 | refine below_set ?_ GE114.out | refine below_set ?_ GE115.out) | exact HB.out)⟩

/-! ### mranges_offAddr_diff: function 46 -/
def mranges_offAddr_diff.f (a0_0 : Int) (a1_0 : Int) : Option (Int) := some (IntKind.u64.wrap (a0_0 - a1_0))
set_option maxHeartbeats 8000000 in
set_option maxRecDepth 100000 in
theorem mranges_offAddr_diff.calls (a0_0 : Int) (a1_0 : Int) (r : Int) (w : World) (h : mranges_offAddr_diff.f a0_0 a1_0 = some r) :
    Calls Try.prog 46 #[.agg #[.int .u64 a0_0], .agg #[.int .u64 a1_0]] w fun e w' => e = .returned (.int .u64 r) ∧ Below w.heap.size w w' := by
  have hu69 := Try.underlying69
  have HB := Aside0.mk (Below.refl w.heap.size w)
  have H : (some (IntKind.u64.wrap (a0_0 - a1_0))) = some r := h
  clear h
  obtain rfl := Option.some.inj H
  go_enter Try.func46, Try.ntmps46
  go_wp2_with (first | ((with_reducible refine gate_dst (N := 2) rfl ?_); refine box_event ?hg (N := 2) ?hd (cs := #[.int .u64 a0_0]) (t := 69) ?hr ?_; (case hd => rfl); (case hg => rfl); (case hr => first | (go_simp; done) | (go_simp; rfl)); intro gb116 hg w3 hbox hb; have n0_ := Aside0.mk (below_step (by repeat (first | (with_reducible first | exact HB.out | apply below_alloc | apply pw_below_drewN | apply below_drew1) | exact HB.out)) hb); have n1_ := Aside0.mk (hbox); have n2_ := Aside0.mk ((by rw [hg]; exact (below_size (by repeat (first | (with_reducible first | exact HB.out | apply below_alloc | apply pw_below_drewN | apply below_drew1) | exact HB.out))) : w.heap.size ≤ gb116)); have n3_ := Aside0.mk ((by rw [hg]; exact (below_size (by repeat (first | (with_reducible first | exact HB.out | apply below_alloc | apply pw_below_drewN | apply below_drew1) | exact HB.out))) : w.heap.size ≤ gb116)); clear HB; have HB := n0_; have BK116 := n1_; have GW116 := n2_; have GE116 := n3_; clear n0_ n1_ n2_ n3_; clear hb hbox hg) | ((with_reducible refine gate_dst (N := 3) rfl ?_); refine box_event ?hg (N := 3) ?hd (cs := #[.int .u64 a1_0]) (t := 69) ?hr ?_; (case hd => rfl); (case hg => rfl); (case hr => first | (go_simp; done) | (go_simp; rfl)); intro gb117 hg w4 hbox hb; have n0_ := Aside0.mk (blk_below (g := gb116) (o := .cells #[.int .u64 a0_0] 69 (0, 0)) (by (with_reducible repeat (first | refine blk_drewN ?_ _ | refine blk_drew ?_ | refine blk_alloc ?_ _)); exact BK116.out) hb); have n1_ := Aside0.mk (below_step (by repeat (first | (with_reducible first | exact HB.out | apply below_alloc | apply pw_below_drewN | apply below_drew1 | refine below_set ?_ GE116.out) | exact HB.out)) hb); have n2_ := Aside0.mk (hbox); have n3_ := Aside0.mk ((by rw [hg]; exact (below_size (by repeat (first | (with_reducible first | exact HB.out | apply below_alloc | apply pw_below_drewN | apply below_drew1 | refine below_set ?_ GE116.out) | exact HB.out))) : w.heap.size ≤ gb117)); have n4_ := Aside0.mk ((by rw [hg]; exact (below_size (by repeat (first | (with_reducible first | exact HB.out | apply below_alloc | apply pw_below_drewN | apply below_drew1 | refine below_set ?_ GE116.out) | exact HB.out))) : w.heap.size ≤ gb117)); have n5_ := Aside0.mk ((by rw [hg]; exact Nat.ne_of_lt (blk_lt (g := gb116) (o := .cells #[.int .u64 a0_0] 69 (0, 0)) (by (with_reducible repeat (first | refine blk_drewN ?_ _ | refine blk_drew ?_ | refine blk_alloc ?_ _)); exact BK116.out)) : gb116 ≠ gb117)); have n6_ := Aside0.mk ((by rw [hg]; exact Nat.ne_of_gt (blk_lt (g := gb116) (o := .cells #[.int .u64 a0_0] 69 (0, 0)) (by (with_reducible repeat (first | refine blk_drewN ?_ _ | refine blk_drew ?_ | refine blk_alloc ?_ _)); exact BK116.out)) : gb117 ≠ gb116)); clear BK116; clear HB; have BK116 := n0_; have HB := n1_; have BK117 := n2_; have GW117 := n3_; have GE117 := n4_; have NB116_117 := n5_; have NB117_116 := n6_; clear n0_ n1_ n2_ n3_ n4_ n5_ n6_; clear hb hbox hg; have hnb5 := NB116_117.out; have hnc5 := NB117_116.out; have hcz6_0 : w4.cell? ⟨gb116, 0, none⟩ = some (.int .u64 a0_0) := (blk_cell BK116.out 0).trans rfl; have hfz6_0 := blk_frozen BK116.out 0; have hcz7_0 : w4.cell? ⟨gb117, 0, none⟩ = some (.int .u64 a1_0) := (blk_cell BK117.out 0).trans rfl; have hfz7_0 := blk_frozen BK117.out 0))
  go_ret
  exact ⟨by first | rfl | (simp [errW_none, errW_some] <;> rfl) | (simp [*, errW_none, errW_some] <;> rfl), by repeat (first | (with_reducible first | exact HB.out | apply below_alloc | apply pw_below_drewN | apply below_drew1 | refine below_set ?_ GE116.out | refine below_set ?_ GE117.out) | exact HB.out)⟩

/-! ### mranges_addrRange_size: function 38 -/
def mranges_addrRange_size.f (a0_0 : Int) (a0_1 : Int) : Option (Int) := (mranges_offAddr_lessThan.f a0_0 a0_1).bind fun t119 => (if t119 = true then ((mranges_offAddr_diff.f a0_1 a0_0).bind fun t120 => (some t120)) else (some 0))
set_option maxHeartbeats 8000000 in
set_option maxRecDepth 100000 in
theorem mranges_addrRange_size.calls (a0_0 : Int) (a0_1 : Int) (r : Int) (w : World) (h : mranges_addrRange_size.f a0_0 a0_1 = some r) :
    Calls Try.prog 38 #[.agg #[.int .u64 a0_0, .int .u64 a0_1]] w fun e w' => e = .returned (.int .u64 r) ∧ Below w.heap.size w w' := by
  have hu71 := Try.underlying71
  have hu69 := Try.underlying69
  have HB := Aside0.mk (Below.refl w.heap.size w)
  have H : ((mranges_offAddr_lessThan.f a0_0 a0_1).bind fun t119 => (if t119 = true then ((mranges_offAddr_diff.f a0_1 a0_0).bind fun t120 => (some t120)) else (some 0))) = some r := h
  clear h
  replace H := Option.bind_eq_some_iff.mp H
  obtain ⟨t119, A20, H⟩ := H
  replace H : (if t119 = true then ((mranges_offAddr_diff.f a0_1 a0_0).bind fun t120 => (some t120)) else (some 0)) = some r := H
  have A2 := Aside0.mk A20
  clear A20
  by_cases c3 : t119 = true
  · subst c3
    have H1 : ((mranges_offAddr_diff.f a0_1 a0_0).bind fun t120 => (some t120)) = some r := by rw [if_pos rfl] at H; exact H
    clear H
    have H := H1
    clear H1
    replace H := Option.bind_eq_some_iff.mp H
    obtain ⟨t120, A40, H⟩ := H
    replace H : (some t120) = some r := H
    have A4 := Aside0.mk A40
    clear A40
    obtain rfl := Option.some.inj H
    go_enter Try.func38, Try.ntmps38
    go_wp2_with (first | ((with_reducible refine gate_dst (N := 1) rfl ?_); refine box_event ?hg (N := 1) ?hd (cs := #[.int .u64 a0_0, .int .u64 a0_1]) (t := 71) ?hr ?_; (case hd => rfl); (case hg => rfl); (case hr => first | (go_simp; done) | (go_simp; rfl)); intro gb118 hg w5 hbox hb; have n0_ := Aside0.mk (below_step (by repeat (first | (with_reducible first | exact HB.out | apply below_alloc | apply pw_below_drewN | apply below_drew1) | exact HB.out)) hb); have n1_ := Aside0.mk (hbox); have n2_ := Aside0.mk ((by rw [hg]; exact (below_size (by repeat (first | (with_reducible first | exact HB.out | apply below_alloc | apply pw_below_drewN | apply below_drew1) | exact HB.out))) : w.heap.size ≤ gb118)); have n3_ := Aside0.mk ((by rw [hg]; exact (below_size (by repeat (first | (with_reducible first | exact HB.out | apply below_alloc | apply pw_below_drewN | apply below_drew1) | exact HB.out))) : w.heap.size ≤ gb118)); clear HB; have HB := n0_; have BK118 := n1_; have GW118 := n2_; have GE118 := n3_; clear n0_ n1_ n2_ n3_; clear hb hbox hg; have hcz6_0 : w5.cell? ⟨gb118, 0, none⟩ = some (.int .u64 a0_0) := (blk_cell BK118.out 0).trans rfl; have hcz6_1 : w5.cell? ⟨gb118, 1, none⟩ = some (.int .u64 a0_1) := (blk_cell BK118.out 1).trans rfl; have hfz6_0 := blk_frozen BK118.out 0; have hfz6_1 := blk_frozen BK118.out 1) | ((with_reducible refine gate_callee (f := 45) rfl ?_); refine goesL_ (some 7) rfl rfl Try.func45 (by kernel_rfl) rfl #[.agg #[.int .u64 a0_0], .agg #[.int .u64 a0_1]] rfl (by (try simp only [List.map_toArray, List.map_cons, List.map_nil]); first | done | rfl | (simp only [List.length_drop, List.length_take]; rfl)) ?_; (with_reducible refine (mranges_offAddr_lessThan.calls a0_0 a0_1 true _ A2.out).mono ?_); rintro e w7 ⟨rfl, hb⟩; refine ⟨_, rfl, ?_⟩; have n0_ := Aside0.mk (blk_below (g := gb118) (o := .cells #[.int .u64 a0_0, .int .u64 a0_1] 71 (0, 0)) (by (with_reducible repeat (first | refine blk_drewN ?_ _ | refine blk_drew ?_ | refine blk_alloc ?_ _)); exact BK118.out) hb); have n1_ := Aside0.mk (below_step (by repeat (first | (with_reducible first | exact HB.out | apply below_alloc | apply pw_below_drewN | apply below_drew1 | refine below_set ?_ GE118.out) | exact HB.out)) hb); clear BK118; clear HB; have BK118 := n0_; have HB := n1_; clear n0_ n1_; (try clear hb); (try clear hb2); (try clear hk); (try clear hi); have hcz8_0 : w7.cell? ⟨gb118, 0, none⟩ = some (.int .u64 a0_0) := (blk_cell BK118.out 0).trans rfl; have hcz8_1 : w7.cell? ⟨gb118, 1, none⟩ = some (.int .u64 a0_1) := (blk_cell BK118.out 1).trans rfl; have hfz8_0 := blk_frozen BK118.out 0; have hfz8_1 := blk_frozen BK118.out 1) | ((with_reducible refine gate_callee (f := 46) rfl ?_); refine goesL_ (some 13) rfl rfl Try.func46 (by kernel_rfl) rfl #[.agg #[.int .u64 a0_1], .agg #[.int .u64 a0_0]] rfl (by (try simp only [List.map_toArray, List.map_cons, List.map_nil]); first | done | rfl | (simp only [List.length_drop, List.length_take]; rfl)) ?_; (with_reducible refine (mranges_offAddr_diff.calls a0_1 a0_0 t120 _ A4.out).mono ?_); rintro e w9 ⟨rfl, hb⟩; refine ⟨_, rfl, ?_⟩; have n0_ := Aside0.mk (blk_below (g := gb118) (o := .cells #[.int .u64 a0_0, .int .u64 a0_1] 71 (0, 0)) (by (with_reducible repeat (first | refine blk_drewN ?_ _ | refine blk_drew ?_ | refine blk_alloc ?_ _)); exact BK118.out) hb); have n1_ := Aside0.mk (below_step (by repeat (first | (with_reducible first | exact HB.out | apply below_alloc | apply pw_below_drewN | apply below_drew1 | refine below_set ?_ GE118.out) | exact HB.out)) hb); clear BK118; clear HB; have BK118 := n0_; have HB := n1_; clear n0_ n1_; (try clear hb); (try clear hb2); (try clear hk); (try clear hi)))
    go_ret
    exact ⟨by first | rfl | (simp [errW_none, errW_some] <;> rfl) | (simp [*, errW_none, errW_some] <;> rfl), by repeat (first | (with_reducible first | exact HB.out | apply below_alloc | apply pw_below_drewN | apply below_drew1 | refine below_set ?_ GE118.out) | exact HB.out)⟩
  · replace c3 := Bool.eq_false_iff.mpr c3
    subst c3
    have H1 : (some 0) = some r := by rw [if_neg (show ¬ (false = true) by decide)] at H; exact H
    clear H
    have H := H1
    clear H1
    obtain rfl := Option.some.inj H
    go_enter Try.func38, Try.ntmps38
    go_wp2_with (first | ((with_reducible refine gate_dst (N := 1) rfl ?_); refine box_event ?hg (N := 1) ?hd (cs := #[.int .u64 a0_0, .int .u64 a0_1]) (t := 71) ?hr ?_; (case hd => rfl); (case hg => rfl); (case hr => first | (go_simp; done) | (go_simp; rfl)); intro gb118 hg w10 hbox hb; have n0_ := Aside0.mk (below_step (by repeat (first | (with_reducible first | exact HB.out | apply below_alloc | apply pw_below_drewN | apply below_drew1) | exact HB.out)) hb); have n1_ := Aside0.mk (hbox); have n2_ := Aside0.mk ((by rw [hg]; exact (below_size (by repeat (first | (with_reducible first | exact HB.out | apply below_alloc | apply pw_below_drewN | apply below_drew1) | exact HB.out))) : w.heap.size ≤ gb118)); have n3_ := Aside0.mk ((by rw [hg]; exact (below_size (by repeat (first | (with_reducible first | exact HB.out | apply below_alloc | apply pw_below_drewN | apply below_drew1) | exact HB.out))) : w.heap.size ≤ gb118)); clear HB; have HB := n0_; have BK118 := n1_; have GW118 := n2_; have GE118 := n3_; clear n0_ n1_ n2_ n3_; clear hb hbox hg; have hcz11_0 : w10.cell? ⟨gb118, 0, none⟩ = some (.int .u64 a0_0) := (blk_cell BK118.out 0).trans rfl; have hcz11_1 : w10.cell? ⟨gb118, 1, none⟩ = some (.int .u64 a0_1) := (blk_cell BK118.out 1).trans rfl; have hfz11_0 := blk_frozen BK118.out 0; have hfz11_1 := blk_frozen BK118.out 1) | ((with_reducible refine gate_callee (f := 45) rfl ?_); refine goesL_ (some 7) rfl rfl Try.func45 (by kernel_rfl) rfl #[.agg #[.int .u64 a0_0], .agg #[.int .u64 a0_1]] rfl (by (try simp only [List.map_toArray, List.map_cons, List.map_nil]); first | done | rfl | (simp only [List.length_drop, List.length_take]; rfl)) ?_; (with_reducible refine (mranges_offAddr_lessThan.calls a0_0 a0_1 false _ A2.out).mono ?_); rintro e w12 ⟨rfl, hb⟩; refine ⟨_, rfl, ?_⟩; have n0_ := Aside0.mk (blk_below (g := gb118) (o := .cells #[.int .u64 a0_0, .int .u64 a0_1] 71 (0, 0)) (by (with_reducible repeat (first | refine blk_drewN ?_ _ | refine blk_drew ?_ | refine blk_alloc ?_ _)); exact BK118.out) hb); have n1_ := Aside0.mk (below_step (by repeat (first | (with_reducible first | exact HB.out | apply below_alloc | apply pw_below_drewN | apply below_drew1 | refine below_set ?_ GE118.out) | exact HB.out)) hb); clear BK118; clear HB; have BK118 := n0_; have HB := n1_; clear n0_ n1_; (try clear hb); (try clear hb2); (try clear hk); (try clear hi)))
    go_ret
    exact ⟨by first | rfl | (simp [errW_none, errW_some] <;> rfl) | (simp [*, errW_none, errW_some] <;> rfl), by repeat (first | (with_reducible first | exact HB.out | apply below_alloc | apply pw_below_drewN | apply below_drew1 | refine below_set ?_ GE118.out) | exact HB.out)⟩

/-! ### mranges_offAddr_addr: function 40 -/
def mranges_offAddr_addr.f (a0_0 : Int) : Option (Int) := some a0_0
set_option maxHeartbeats 8000000 in
set_option maxRecDepth 100000 in
theorem mranges_offAddr_addr.calls (a0_0 : Int) (r : Int) (w : World) (h : mranges_offAddr_addr.f a0_0 = some r) :
    Calls Try.prog 40 #[.agg #[.int .u64 a0_0]] w fun e w' => e = .returned (.int .u64 r) ∧ Below w.heap.size w w' := by
  have hu69 := Try.underlying69
  have HB := Aside0.mk (Below.refl w.heap.size w)
  have H : (some a0_0) = some r := h
  clear h
  obtain rfl := Option.some.inj H
  go_enter Try.func40, Try.ntmps40
  go_wp2_with (first | ((with_reducible refine gate_dst (N := 1) rfl ?_); refine box_event ?hg (N := 1) ?hd (cs := #[.int .u64 a0_0]) (t := 69) ?hr ?_; (case hd => rfl); (case hg => rfl); (case hr => first | (go_simp; done) | (go_simp; rfl)); intro gb121 hg w2 hbox hb; have n0_ := Aside0.mk (below_step (by repeat (first | (with_reducible first | exact HB.out | apply below_alloc | apply pw_below_drewN | apply below_drew1) | exact HB.out)) hb); have n1_ := Aside0.mk (hbox); have n2_ := Aside0.mk ((by rw [hg]; exact (below_size (by repeat (first | (with_reducible first | exact HB.out | apply below_alloc | apply pw_below_drewN | apply below_drew1) | exact HB.out))) : w.heap.size ≤ gb121)); have n3_ := Aside0.mk ((by rw [hg]; exact (below_size (by repeat (first | (with_reducible first | exact HB.out | apply below_alloc | apply pw_below_drewN | apply below_drew1) | exact HB.out))) : w.heap.size ≤ gb121)); clear HB; have HB := n0_; have BK121 := n1_; have GW121 := n2_; have GE121 := n3_; clear n0_ n1_ n2_ n3_; clear hb hbox hg; have hcz3_0 : w2.cell? ⟨gb121, 0, none⟩ = some (.int .u64 a0_0) := (blk_cell BK121.out 0).trans rfl; have hfz3_0 := blk_frozen BK121.out 0))
  go_ret
  exact ⟨by first | rfl | (simp [errW_none, errW_some] <;> rfl) | (simp [*, errW_none, errW_some] <;> rfl), by repeat (first | (with_reducible first | exact HB.out | apply below_alloc | apply pw_below_drewN | apply below_drew1 | refine below_set ?_ GE121.out) | exact HB.out)⟩

/-! ### mranges_offAddr_lessEqual: function 47 -/
def mranges_offAddr_lessEqual.f (a0_0 : Int) (a1_0 : Int) : Option (Bool) := some (decide ((IntKind.u64.wrap (a0_0 - 18446603336221196288)) ≤ (IntKind.u64.wrap (a1_0 - 18446603336221196288))))
set_option maxHeartbeats 8000000 in
set_option maxRecDepth 100000 in
theorem mranges_offAddr_lessEqual.calls (a0_0 : Int) (a1_0 : Int) (r : Bool) (w : World) (h : mranges_offAddr_lessEqual.f a0_0 a1_0 = some r) :
    Calls Try.prog 47 #[.agg #[.int .u64 a0_0], .agg #[.int .u64 a1_0]] w fun e w' => e = .returned (.bool r) ∧ Below w.heap.size w w' := by
  have hu69 := Try.underlying69
  have HB := Aside0.mk (Below.refl w.heap.size w)
  have H : (some (decide ((IntKind.u64.wrap (a0_0 - 18446603336221196288)) ≤ (IntKind.u64.wrap (a1_0 - 18446603336221196288))))) = some r := h
  clear h
  obtain rfl := Option.some.inj H
  go_enter Try.func47, Try.ntmps47
  go_wp2_with (first | ((with_reducible refine gate_dst (N := 2) rfl ?_); refine box_event ?hg (N := 2) ?hd (cs := #[.int .u64 a0_0]) (t := 69) ?hr ?_; (case hd => rfl); (case hg => rfl); (case hr => first | (go_simp; done) | (go_simp; rfl)); intro gb122 hg w3 hbox hb; have n0_ := Aside0.mk (below_step (by repeat (first | (with_reducible first | exact HB.out | apply below_alloc | apply pw_below_drewN | apply below_drew1) | exact HB.out)) hb); have n1_ := Aside0.mk (hbox); have n2_ := Aside0.mk ((by rw [hg]; exact (below_size (by repeat (first | (with_reducible first | exact HB.out | apply below_alloc | apply pw_below_drewN | apply below_drew1) | exact HB.out))) : w.heap.size ≤ gb122)); have n3_ := Aside0.mk ((by rw [hg]; exact (below_size (by repeat (first | (with_reducible first | exact HB.out | apply below_alloc | apply pw_below_drewN | apply below_drew1) | exact HB.out))) : w.heap.size ≤ gb122)); clear HB; have HB := n0_; have BK122 := n1_; have GW122 := n2_; have GE122 := n3_; clear n0_ n1_ n2_ n3_; clear hb hbox hg) | ((with_reducible refine gate_dst (N := 3) rfl ?_); refine box_event ?hg (N := 3) ?hd (cs := #[.int .u64 a1_0]) (t := 69) ?hr ?_; (case hd => rfl); (case hg => rfl); (case hr => first | (go_simp; done) | (go_simp; rfl)); intro gb123 hg w4 hbox hb; have n0_ := Aside0.mk (blk_below (g := gb122) (o := .cells #[.int .u64 a0_0] 69 (0, 0)) (by (with_reducible repeat (first | refine blk_drewN ?_ _ | refine blk_drew ?_ | refine blk_alloc ?_ _)); exact BK122.out) hb); have n1_ := Aside0.mk (below_step (by repeat (first | (with_reducible first | exact HB.out | apply below_alloc | apply pw_below_drewN | apply below_drew1 | refine below_set ?_ GE122.out) | exact HB.out)) hb); have n2_ := Aside0.mk (hbox); have n3_ := Aside0.mk ((by rw [hg]; exact (below_size (by repeat (first | (with_reducible first | exact HB.out | apply below_alloc | apply pw_below_drewN | apply below_drew1 | refine below_set ?_ GE122.out) | exact HB.out))) : w.heap.size ≤ gb123)); have n4_ := Aside0.mk ((by rw [hg]; exact (below_size (by repeat (first | (with_reducible first | exact HB.out | apply below_alloc | apply pw_below_drewN | apply below_drew1 | refine below_set ?_ GE122.out) | exact HB.out))) : w.heap.size ≤ gb123)); have n5_ := Aside0.mk ((by rw [hg]; exact Nat.ne_of_lt (blk_lt (g := gb122) (o := .cells #[.int .u64 a0_0] 69 (0, 0)) (by (with_reducible repeat (first | refine blk_drewN ?_ _ | refine blk_drew ?_ | refine blk_alloc ?_ _)); exact BK122.out)) : gb122 ≠ gb123)); have n6_ := Aside0.mk ((by rw [hg]; exact Nat.ne_of_gt (blk_lt (g := gb122) (o := .cells #[.int .u64 a0_0] 69 (0, 0)) (by (with_reducible repeat (first | refine blk_drewN ?_ _ | refine blk_drew ?_ | refine blk_alloc ?_ _)); exact BK122.out)) : gb123 ≠ gb122)); clear BK122; clear HB; have BK122 := n0_; have HB := n1_; have BK123 := n2_; have GW123 := n3_; have GE123 := n4_; have NB122_123 := n5_; have NB123_122 := n6_; clear n0_ n1_ n2_ n3_ n4_ n5_ n6_; clear hb hbox hg; have hnb5 := NB122_123.out; have hnc5 := NB123_122.out; have hcz6_0 : w4.cell? ⟨gb122, 0, none⟩ = some (.int .u64 a0_0) := (blk_cell BK122.out 0).trans rfl; have hfz6_0 := blk_frozen BK122.out 0; have hcz7_0 : w4.cell? ⟨gb123, 0, none⟩ = some (.int .u64 a1_0) := (blk_cell BK123.out 0).trans rfl; have hfz7_0 := blk_frozen BK123.out 0))
  go_ret
  exact ⟨by first | rfl | (simp [errW_none, errW_some] <;> rfl) | (simp [*, errW_none, errW_some] <;> rfl), by repeat (first | (with_reducible first | exact HB.out | apply below_alloc | apply pw_below_drewN | apply below_drew1 | refine below_set ?_ GE122.out | refine below_set ?_ GE123.out) | exact HB.out)⟩

/-! ### mranges_addrRange_contains: function 42 -/
def mranges_addrRange_contains.f (a0_0 : Int) (a0_1 : Int) (a1 : Int) : Option (Bool) := (mranges_offAddr_lessEqual.f a0_0 a1).bind fun t125 => (if t125 = true then ((mranges_offAddr_lessThan.f a1 a0_1).bind fun t126 => (some t126)) else (some false))
set_option maxHeartbeats 8000000 in
set_option maxRecDepth 100000 in
theorem mranges_addrRange_contains.calls (a0_0 : Int) (a0_1 : Int) (a1 : Int) (r : Bool) (w : World) (h : mranges_addrRange_contains.f a0_0 a0_1 a1 = some r) :
    Calls Try.prog 42 #[.agg #[.int .u64 a0_0, .int .u64 a0_1], .int .u64 a1] w fun e w' => e = .returned (.bool r) ∧ Below w.heap.size w w' := by
  have hu71 := Try.underlying71
  have hu69 := Try.underlying69
  have HB := Aside0.mk (Below.refl w.heap.size w)
  have H : ((mranges_offAddr_lessEqual.f a0_0 a1).bind fun t125 => (if t125 = true then ((mranges_offAddr_lessThan.f a1 a0_1).bind fun t126 => (some t126)) else (some false))) = some r := h
  clear h
  replace H := Option.bind_eq_some_iff.mp H
  obtain ⟨t125, A30, H⟩ := H
  replace H : (if t125 = true then ((mranges_offAddr_lessThan.f a1 a0_1).bind fun t126 => (some t126)) else (some false)) = some r := H
  have A3 := Aside0.mk A30
  clear A30
  by_cases c4 : t125 = true
  · subst c4
    have H1 : ((mranges_offAddr_lessThan.f a1 a0_1).bind fun t126 => (some t126)) = some r := by rw [if_pos rfl] at H; exact H
    clear H
    have H := H1
    clear H1
    replace H := Option.bind_eq_some_iff.mp H
    obtain ⟨t126, A50, H⟩ := H
    replace H : (some t126) = some r := H
    have A5 := Aside0.mk A50
    clear A50
    obtain rfl := Option.some.inj H
    go_enter Try.func42, Try.ntmps42
    go_wp2_with (first | ((with_reducible refine gate_dst (N := 2) rfl ?_); refine box_event ?hg (N := 2) ?hd (cs := #[.int .u64 a0_0, .int .u64 a0_1]) (t := 71) ?hr ?_; (case hd => rfl); (case hg => rfl); (case hr => first | (go_simp; done) | (go_simp; rfl)); intro gb124 hg w6 hbox hb; have n0_ := Aside0.mk (below_step (by repeat (first | (with_reducible first | exact HB.out | apply below_alloc | apply pw_below_drewN | apply below_drew1) | exact HB.out)) hb); have n1_ := Aside0.mk (hbox); have n2_ := Aside0.mk ((by rw [hg]; exact (below_size (by repeat (first | (with_reducible first | exact HB.out | apply below_alloc | apply pw_below_drewN | apply below_drew1) | exact HB.out))) : w.heap.size ≤ gb124)); have n3_ := Aside0.mk ((by rw [hg]; exact (below_size (by repeat (first | (with_reducible first | exact HB.out | apply below_alloc | apply pw_below_drewN | apply below_drew1) | exact HB.out))) : w.heap.size ≤ gb124)); clear HB; have HB := n0_; have BK124 := n1_; have GW124 := n2_; have GE124 := n3_; clear n0_ n1_ n2_ n3_; clear hb hbox hg; have hcz7_0 : w6.cell? ⟨gb124, 0, none⟩ = some (.int .u64 a0_0) := (blk_cell BK124.out 0).trans rfl; have hcz7_1 : w6.cell? ⟨gb124, 1, none⟩ = some (.int .u64 a0_1) := (blk_cell BK124.out 1).trans rfl; have hfz7_0 := blk_frozen BK124.out 0; have hfz7_1 := blk_frozen BK124.out 1) | ((with_reducible refine gate_callee (f := 47) rfl ?_); refine goesL_ (some 9) rfl rfl Try.func47 (by kernel_rfl) rfl #[.agg #[.int .u64 a0_0], .agg #[.int .u64 a1]] rfl (by (try simp only [List.map_toArray, List.map_cons, List.map_nil]); first | done | rfl | (simp only [List.length_drop, List.length_take]; rfl)) ?_; (with_reducible refine (mranges_offAddr_lessEqual.calls a0_0 a1 true _ A3.out).mono ?_); rintro e w8 ⟨rfl, hb⟩; refine ⟨_, rfl, ?_⟩; have n0_ := Aside0.mk (blk_below (g := gb124) (o := .cells #[.int .u64 a0_0, .int .u64 a0_1] 71 (0, 0)) (by (with_reducible repeat (first | refine blk_drewN ?_ _ | refine blk_drew ?_ | refine blk_alloc ?_ _)); exact BK124.out) hb); have n1_ := Aside0.mk (below_step (by repeat (first | (with_reducible first | exact HB.out | apply below_alloc | apply pw_below_drewN | apply below_drew1 | refine below_set ?_ GE124.out) | exact HB.out)) hb); clear BK124; clear HB; have BK124 := n0_; have HB := n1_; clear n0_ n1_; (try clear hb); (try clear hb2); (try clear hk); (try clear hi); have hcz9_0 : w8.cell? ⟨gb124, 0, none⟩ = some (.int .u64 a0_0) := (blk_cell BK124.out 0).trans rfl; have hcz9_1 : w8.cell? ⟨gb124, 1, none⟩ = some (.int .u64 a0_1) := (blk_cell BK124.out 1).trans rfl; have hfz9_0 := blk_frozen BK124.out 0; have hfz9_1 := blk_frozen BK124.out 1) | (go_at_call 45; (with_reducible refine (mranges_offAddr_lessThan.calls a1 a0_1 t126 _ A5.out).mono ?_); rintro e w10 ⟨rfl, hb⟩; have n0_ := Aside0.mk (blk_below (g := gb124) (o := .cells #[.int .u64 a0_0, .int .u64 a0_1] 71 (0, 0)) (by (with_reducible repeat (first | refine blk_drewN ?_ _ | refine blk_drew ?_ | refine blk_alloc ?_ _)); exact BK124.out) hb); have n1_ := Aside0.mk (below_step (by repeat (first | (with_reducible first | exact HB.out | apply below_alloc | apply pw_below_drewN | apply below_drew1 | refine below_set ?_ GE124.out) | exact HB.out)) hb); clear BK124; clear HB; have BK124 := n0_; have HB := n1_; clear n0_ n1_; (try clear hb); (try clear hb2); (try clear hk); (try clear hi)))
    go_ret
    exact ⟨by first | rfl | (simp [errW_none, errW_some] <;> rfl) | (simp [*, errW_none, errW_some] <;> rfl), by repeat (first | (with_reducible first | exact HB.out | apply below_alloc | apply pw_below_drewN | apply below_drew1 | refine below_set ?_ GE124.out) | exact HB.out)⟩
  · replace c4 := Bool.eq_false_iff.mpr c4
    subst c4
    have H1 : (some false) = some r := by rw [if_neg (show ¬ (false = true) by decide)] at H; exact H
    clear H
    have H := H1
    clear H1
    obtain rfl := Option.some.inj H
    go_enter Try.func42, Try.ntmps42
    go_wp2_with (first | ((with_reducible refine gate_dst (N := 2) rfl ?_); refine box_event ?hg (N := 2) ?hd (cs := #[.int .u64 a0_0, .int .u64 a0_1]) (t := 71) ?hr ?_; (case hd => rfl); (case hg => rfl); (case hr => first | (go_simp; done) | (go_simp; rfl)); intro gb124 hg w11 hbox hb; have n0_ := Aside0.mk (below_step (by repeat (first | (with_reducible first | exact HB.out | apply below_alloc | apply pw_below_drewN | apply below_drew1) | exact HB.out)) hb); have n1_ := Aside0.mk (hbox); have n2_ := Aside0.mk ((by rw [hg]; exact (below_size (by repeat (first | (with_reducible first | exact HB.out | apply below_alloc | apply pw_below_drewN | apply below_drew1) | exact HB.out))) : w.heap.size ≤ gb124)); have n3_ := Aside0.mk ((by rw [hg]; exact (below_size (by repeat (first | (with_reducible first | exact HB.out | apply below_alloc | apply pw_below_drewN | apply below_drew1) | exact HB.out))) : w.heap.size ≤ gb124)); clear HB; have HB := n0_; have BK124 := n1_; have GW124 := n2_; have GE124 := n3_; clear n0_ n1_ n2_ n3_; clear hb hbox hg; have hcz12_0 : w11.cell? ⟨gb124, 0, none⟩ = some (.int .u64 a0_0) := (blk_cell BK124.out 0).trans rfl; have hcz12_1 : w11.cell? ⟨gb124, 1, none⟩ = some (.int .u64 a0_1) := (blk_cell BK124.out 1).trans rfl; have hfz12_0 := blk_frozen BK124.out 0; have hfz12_1 := blk_frozen BK124.out 1) | ((with_reducible refine gate_callee (f := 47) rfl ?_); refine goesL_ (some 9) rfl rfl Try.func47 (by kernel_rfl) rfl #[.agg #[.int .u64 a0_0], .agg #[.int .u64 a1]] rfl (by (try simp only [List.map_toArray, List.map_cons, List.map_nil]); first | done | rfl | (simp only [List.length_drop, List.length_take]; rfl)) ?_; (with_reducible refine (mranges_offAddr_lessEqual.calls a0_0 a1 false _ A3.out).mono ?_); rintro e w13 ⟨rfl, hb⟩; refine ⟨_, rfl, ?_⟩; have n0_ := Aside0.mk (blk_below (g := gb124) (o := .cells #[.int .u64 a0_0, .int .u64 a0_1] 71 (0, 0)) (by (with_reducible repeat (first | refine blk_drewN ?_ _ | refine blk_drew ?_ | refine blk_alloc ?_ _)); exact BK124.out) hb); have n1_ := Aside0.mk (below_step (by repeat (first | (with_reducible first | exact HB.out | apply below_alloc | apply pw_below_drewN | apply below_drew1 | refine below_set ?_ GE124.out) | exact HB.out)) hb); clear BK124; clear HB; have BK124 := n0_; have HB := n1_; clear n0_ n1_; (try clear hb); (try clear hb2); (try clear hk); (try clear hi)))
    go_ret
    exact ⟨by first | rfl | (simp [errW_none, errW_some] <;> rfl) | (simp [*, errW_none, errW_some] <;> rfl), by repeat (first | (with_reducible first | exact HB.out | apply below_alloc | apply pw_below_drewN | apply below_drew1 | refine below_set ?_ GE124.out) | exact HB.out)⟩

attribute [local go_sem high] eqA69
/-! ### mranges_offAddr_equal: function 41 -/
def mranges_offAddr_equal.f (a0_0 : Int) (a1_0 : Int) : Option (Bool) := some (a0_0 == a1_0)
set_option maxHeartbeats 8000000 in
set_option maxRecDepth 100000 in
theorem mranges_offAddr_equal.calls (a0_0 : Int) (a1_0 : Int) (r : Bool) (w : World) (h : mranges_offAddr_equal.f a0_0 a1_0 = some r) :
    Calls Try.prog 41 #[.agg #[.int .u64 a0_0], .agg #[.int .u64 a1_0]] w fun e w' => e = .returned (.bool r) ∧ Below w.heap.size w w' := by
  have hu69 := Try.underlying69
  have HB := Aside0.mk (Below.refl w.heap.size w)
  have H : (some (a0_0 == a1_0)) = some r := h
  clear h
  obtain rfl := Option.some.inj H
  go_enter Try.func41, Try.ntmps41
  go_wp2_with (first | ((with_reducible refine gate_dst (N := 2) rfl ?_); refine box_event ?hg (N := 2) ?hd (cs := #[.int .u64 a0_0]) (t := 69) ?hr ?_; (case hd => rfl); (case hg => rfl); (case hr => first | (go_simp; done) | (go_simp; rfl)); intro gb135 hg w3 hbox hb; have n0_ := Aside0.mk (below_step (by repeat (first | (with_reducible first | exact HB.out | apply below_alloc | apply pw_below_drewN | apply below_drew1) | exact HB.out)) hb); have n1_ := Aside0.mk (hbox); have n2_ := Aside0.mk ((by rw [hg]; exact (below_size (by repeat (first | (with_reducible first | exact HB.out | apply below_alloc | apply pw_below_drewN | apply below_drew1) | exact HB.out))) : w.heap.size ≤ gb135)); have n3_ := Aside0.mk ((by rw [hg]; exact (below_size (by repeat (first | (with_reducible first | exact HB.out | apply below_alloc | apply pw_below_drewN | apply below_drew1) | exact HB.out))) : w.heap.size ≤ gb135)); clear HB; have HB := n0_; have BK135 := n1_; have GW135 := n2_; have GE135 := n3_; clear n0_ n1_ n2_ n3_; clear hb hbox hg) | ((with_reducible refine gate_dst (N := 3) rfl ?_); refine box_event ?hg (N := 3) ?hd (cs := #[.int .u64 a1_0]) (t := 69) ?hr ?_; (case hd => rfl); (case hg => rfl); (case hr => first | (go_simp; done) | (go_simp; rfl)); intro gb136 hg w4 hbox hb; have n0_ := Aside0.mk (blk_below (g := gb135) (o := .cells #[.int .u64 a0_0] 69 (0, 0)) (by (with_reducible repeat (first | refine blk_drewN ?_ _ | refine blk_drew ?_ | refine blk_alloc ?_ _)); exact BK135.out) hb); have n1_ := Aside0.mk (below_step (by repeat (first | (with_reducible first | exact HB.out | apply below_alloc | apply pw_below_drewN | apply below_drew1 | refine below_set ?_ GE135.out) | exact HB.out)) hb); have n2_ := Aside0.mk (hbox); have n3_ := Aside0.mk ((by rw [hg]; exact (below_size (by repeat (first | (with_reducible first | exact HB.out | apply below_alloc | apply pw_below_drewN | apply below_drew1 | refine below_set ?_ GE135.out) | exact HB.out))) : w.heap.size ≤ gb136)); have n4_ := Aside0.mk ((by rw [hg]; exact (below_size (by repeat (first | (with_reducible first | exact HB.out | apply below_alloc | apply pw_below_drewN | apply below_drew1 | refine below_set ?_ GE135.out) | exact HB.out))) : w.heap.size ≤ gb136)); have n5_ := Aside0.mk ((by rw [hg]; exact Nat.ne_of_lt (blk_lt (g := gb135) (o := .cells #[.int .u64 a0_0] 69 (0, 0)) (by (with_reducible repeat (first | refine blk_drewN ?_ _ | refine blk_drew ?_ | refine blk_alloc ?_ _)); exact BK135.out)) : gb135 ≠ gb136)); have n6_ := Aside0.mk ((by rw [hg]; exact Nat.ne_of_gt (blk_lt (g := gb135) (o := .cells #[.int .u64 a0_0] 69 (0, 0)) (by (with_reducible repeat (first | refine blk_drewN ?_ _ | refine blk_drew ?_ | refine blk_alloc ?_ _)); exact BK135.out)) : gb136 ≠ gb135)); clear BK135; clear HB; have BK135 := n0_; have HB := n1_; have BK136 := n2_; have GW136 := n3_; have GE136 := n4_; have NB135_136 := n5_; have NB136_135 := n6_; clear n0_ n1_ n2_ n3_ n4_ n5_ n6_; clear hb hbox hg; have hnb5 := NB135_136.out; have hnc5 := NB136_135.out; have hcz6_0 : w4.cell? ⟨gb135, 0, none⟩ = some (.int .u64 a0_0) := (blk_cell BK135.out 0).trans rfl; have hfz6_0 := blk_frozen BK135.out 0; have hcz7_0 : w4.cell? ⟨gb136, 0, none⟩ = some (.int .u64 a1_0) := (blk_cell BK136.out 0).trans rfl; have hfz7_0 := blk_frozen BK136.out 0))
  go_ret
  exact ⟨by first | rfl | (simp [errW_none, errW_some] <;> rfl) | (simp [*, errW_none, errW_some] <;> rfl), by repeat (first | (with_reducible first | exact HB.out | apply below_alloc | apply pw_below_drewN | apply below_drew1 | refine below_set ?_ GE135.out | refine below_set ?_ GE136.out) | exact HB.out)⟩

/-! ### mranges_out: function 32 -/
def mranges_out.f (a0_0 : Int) (a0_1 : Int) : Option (Int × Int) := (mranges_offAddr_addr.f a0_0).bind fun t141 => ((mranges_offAddr_addr.f a0_1).bind fun t142 => (some (t141, t142)))
def mranges_out.T1 : Bool × List (List Nat × List Nat) := (true, [([], []), ([0], [0]), ([1], [1]), ([], []), ([3], [3]), ([4, 2], [4]), ([2, 5], [2, 5]), ([6, 5, 0, 1, 2, 3, 4, 5, 6], [6])])
def mranges_out.B1 : List Nat := [0, 1, 3, 0, 8, 31, 63, 127]
theorem mranges_out.tab1 : rtab .any (opsOf Try.f32 1) = mranges_out.T1 := by kernel_rfl
theorem mranges_out.bits1 : waitsOk mranges_out.T1.2 mranges_out.B1 = true := by kernel_rfl
set_option maxHeartbeats 8000000 in
set_option maxRecDepth 100000 in
theorem mranges_out.calls (a0_0 : Int) (a0_1 : Int) (r1 : Int) (r2 : Int) (w : World) (h : mranges_out.f a0_0 a0_1 = some (r1, r2)) :
    Calls Try.prog 32 #[.agg #[.int .u64 a0_0, .int .u64 a0_1]] w fun e w' => e = .returned (.agg #[.int .u64 r1, .int .u64 r2]) ∧ Below w.heap.size w w' := by
  have hu71 := Try.underlying71
  have hu56 := Try.underlying56
  have hu69 := Try.underlying69
  have HB := Aside0.mk (Below.refl w.heap.size w)
  have H : ((mranges_offAddr_addr.f a0_0).bind fun t141 => ((mranges_offAddr_addr.f a0_1).bind fun t142 => (some (t141, t142)))) = some (r1, r2) := h
  clear h
  replace H := Option.bind_eq_some_iff.mp H
  obtain ⟨t141, A20, H⟩ := H
  replace H : ((mranges_offAddr_addr.f a0_1).bind fun t142 => (some (t141, t142))) = some (r1, r2) := H
  have A2 := Aside0.mk A20
  clear A20
  replace H := Option.bind_eq_some_iff.mp H
  obtain ⟨t142, A30, H⟩ := H
  replace H : (some (t141, t142)) = some (r1, r2) := H
  have A3 := Aside0.mk A30
  clear A30
  simp only [Option.some.injEq, Prod.mk.injEq] at H
  obtain ⟨rfl, rfl⟩ := H
  go_enter Try.func32, Try.ntmps32
  try go_wp2_with (first | ((with_reducible refine gate_dst (N := 1) rfl ?_); refine box_event ?hg (N := 1) ?hd (cs := #[.int .u64 a0_0, .int .u64 a0_1]) (t := 71) ?hr ?_; (case hd => rfl); (case hg => rfl); (case hr => first | (go_simp; done) | (go_simp; rfl)); intro gb139 hg w4 hbox hb; have n0_ := Aside0.mk (below_step (by repeat (first | (with_reducible first | exact HB.out | apply below_alloc | apply pw_below_drewN | apply below_drew1) | exact HB.out)) hb); have n1_ := Aside0.mk (hbox); have n2_ := Aside0.mk ((by rw [hg]; exact (below_size (by repeat (first | (with_reducible first | exact HB.out | apply below_alloc | apply pw_below_drewN | apply below_drew1) | exact HB.out))) : w.heap.size ≤ gb139)); have n3_ := Aside0.mk ((by rw [hg]; exact (below_size (by repeat (first | (with_reducible first | exact HB.out | apply below_alloc | apply pw_below_drewN | apply below_drew1) | exact HB.out))) : w.heap.size ≤ gb139)); clear HB; have HB := n0_; have BK139 := n1_; have GW139 := n2_; have GE139 := n3_; clear n0_ n1_ n2_ n3_; clear hb hbox hg) | ((with_reducible refine gate_dst (N := 2) rfl ?_); refine box_event ?hg (N := 2) ?hd (cs := #[.int .u64 0, .int .u64 0]) (t := 56) ?hr ?_; (case hd => rfl); (case hg => rfl); (case hr => first | (go_simp; done) | (go_simp; rfl)); intro gb140 hg w5 hbox hb; have n0_ := Aside0.mk (blk_below (g := gb139) (o := .cells #[.int .u64 a0_0, .int .u64 a0_1] 71 (0, 0)) (by (with_reducible repeat (first | refine blk_drewN ?_ _ | refine blk_drew ?_ | refine blk_alloc ?_ _)); exact BK139.out) hb); have n1_ := Aside0.mk (below_step (by repeat (first | (with_reducible first | exact HB.out | apply below_alloc | apply pw_below_drewN | apply below_drew1 | refine below_set ?_ GE139.out) | exact HB.out)) hb); have n2_ := Aside0.mk (hbox); have n3_ := Aside0.mk ((by rw [hg]; exact (below_size (by repeat (first | (with_reducible first | exact HB.out | apply below_alloc | apply pw_below_drewN | apply below_drew1 | refine below_set ?_ GE139.out) | exact HB.out))) : w.heap.size ≤ gb140)); have n4_ := Aside0.mk ((by rw [hg]; exact (below_size (by repeat (first | (with_reducible first | exact HB.out | apply below_alloc | apply pw_below_drewN | apply below_drew1 | refine below_set ?_ GE139.out) | exact HB.out))) : w.heap.size ≤ gb140)); have n5_ := Aside0.mk ((by rw [hg]; exact Nat.ne_of_lt (blk_lt (g := gb139) (o := .cells #[.int .u64 a0_0, .int .u64 a0_1] 71 (0, 0)) (by (with_reducible repeat (first | refine blk_drewN ?_ _ | refine blk_drew ?_ | refine blk_alloc ?_ _)); exact BK139.out)) : gb139 ≠ gb140)); have n6_ := Aside0.mk ((by rw [hg]; exact Nat.ne_of_gt (blk_lt (g := gb139) (o := .cells #[.int .u64 a0_0, .int .u64 a0_1] 71 (0, 0)) (by (with_reducible repeat (first | refine blk_drewN ?_ _ | refine blk_drew ?_ | refine blk_alloc ?_ _)); exact BK139.out)) : gb140 ≠ gb139)); clear BK139; clear HB; have BK139 := n0_; have HB := n1_; have BK140 := n2_; have GW140 := n3_; have GE140 := n4_; have NB139_140 := n5_; have NB140_139 := n6_; clear n0_ n1_ n2_ n3_ n4_ n5_ n6_; clear hb hbox hg))
  have n0_ := Aside0.mk (blk_drew BK139.out)
  have n1_ := Aside0.mk (blk_drew BK140.out)
  have n2_ := Aside0.mk (below_drew1 HB.out)
  clear BK139
  clear BK140
  clear HB
  have BK139 := n0_
  have BK140 := n1_
  have HB := n2_
  clear n0_ n1_ n2_
  refine start_ (n := 8) (S := fun w' => w'.cell? ⟨gb139, 0, none⟩ = some (.int .u64 a0_0) ∧ w'.cell? ⟨gb139, 1, none⟩ = some (.int .u64 a0_1)) (ds := []) #[false, false, false, false, false, false, false, false] (by kernel_rfl) rfl rfl ⟨(blk_cell BK139.out 0).trans rfl, (blk_cell BK139.out 1).trans rfl⟩ (fun hHeld => ?_); refine with_tabW mranges_out.tab1 mranges_out.bits1 (fun HT_ HW_ => ?_)
  generalize w5.drew = w6 at BK139 BK140 HB hHeld ⊢
  refine pure_ (i := 0) (N := some 3) (v := ?_) (a' := ?_) #[true, false, false, false, false, false, false, false] rfl rfl (any_of HT_.out (by kernel_rfl)) (fun _ _ _ h => h) (Or.inl ⟨by rfl, ?_⟩) ?_ ?_
  rotate_left
  · intro w'
    go_simp
    with_reducible rfl
  rotate_left
  · simp only [Act.put, List.setIfInBounds_toArray, List.set_cons_zero, List.set_cons_succ, i64_w, i32_w]
    rfl
  refine pure_ (i := 3) (N := some 6) (v := ?_) (a' := ?_) #[true, false, false, true, false, false, false, false] rfl rfl (any_of HT_.out (by kernel_rfl)) (fun _ _ _ h => h) (Or.inl ⟨by rfl, ?_⟩) ?_ ?_
  rotate_left
  · intro w'
    go_simp
    with_reducible rfl
  rotate_left
  · simp only [Act.put, List.setIfInBounds_toArray, List.set_cons_zero, List.set_cons_succ, i64_w, i32_w]
    rfl
  refine take_ (i := 1) (N := some 4) (v := ?_) (a' := ?_) #[true, true, false, true, false, false, false, false] rfl rfl (take_ofW HT_.out HW_.out (by kernel_rfl)) (fun _ _ _ h => h) (Or.inl ⟨by rfl, ?_⟩) hHeld ?_ ?_
  rotate_left
  · rintro w' ⟨s0, s1⟩
    go_simp
    with_reducible rfl
  rotate_left
  · simp only [Act.put, List.setIfInBounds_toArray, List.set_cons_zero, List.set_cons_succ, i64_w, i32_w]
    rfl
  refine take_ (i := 4) (N := some 7) (v := ?_) (a' := ?_) #[true, true, false, true, true, false, false, false] rfl rfl (take_ofW HT_.out HW_.out (by kernel_rfl)) (fun _ _ _ h => h) (Or.inl ⟨by rfl, ?_⟩) hHeld ?_ ?_
  rotate_left
  · rintro w' ⟨s0, s1⟩
    go_simp
    with_reducible rfl
  rotate_left
  · simp only [Act.put, List.setIfInBounds_toArray, List.set_cons_zero, List.set_cons_succ, i64_w, i32_w]
    rfl
  refine one_ (i := 2) (N := some 5) #[true, true, true, true, true, false, false, false] rfl rfl (one_of HT_.out (by kernel_rfl)) (by decide) (fun K hK => ?_)
  refine goes_ Try.func40 (by kernel_rfl) rfl #[.agg #[.int .u64 a0_0]] (by rfl) rfl rfl (by (try simp only [List.map_toArray, List.map_cons, List.map_nil]); first | done | rfl | (simp only [List.length_drop, List.length_take]; rfl)) ?_
  with_reducible refine (mranges_offAddr_addr.calls a0_0 t141 _ A2.out).mono ?_
  rintro e w7 ⟨rfl, hb⟩
  refine ⟨_, rfl, ?_⟩
  have n0_ := Aside0.mk (blk_below (g := gb139) (o := .cells #[.int .u64 a0_0, .int .u64 a0_1] 71 (0, 0)) (by (with_reducible repeat (first | refine blk_drewN ?_ _ | refine blk_drew ?_ | refine blk_alloc ?_ _)); exact BK139.out) hb)
  have n1_ := Aside0.mk (blk_below (g := gb140) (o := .cells #[.int .u64 0, .int .u64 0] 56 (0, 0)) (by (with_reducible repeat (first | refine blk_drewN ?_ _ | refine blk_drew ?_ | refine blk_alloc ?_ _)); exact BK140.out) hb)
  have n2_ := Aside0.mk (below_step (by repeat (first | (with_reducible first | exact HB.out | apply below_alloc | apply pw_below_drewN | apply below_drew1 | refine below_set ?_ GE139.out | refine below_set ?_ GE140.out) | exact HB.out)) hb)
  clear BK139
  clear BK140
  clear HB
  have BK139 := n0_
  have BK140 := n1_
  have HB := n2_
  clear n0_ n1_ n2_
  (try clear hb)
  (try clear hb2)
  (try clear hk)
  (try clear hi)
  refine hK.out _ _ ⟨(blk_cell BK139.out 0).trans rfl, (blk_cell BK139.out 1).trans rfl⟩ (fun hHeld => ?_)
  clear hK K
  refine norm_ (a' := ?_) ?_ ?_
  rotate_left
  · show Act.put _ (some 5) _ = _
    simp only [Act.put, List.setIfInBounds_toArray, List.set_cons_zero, List.set_cons_succ, i64_w, i32_w]
    rfl
  refine one_ (i := 5) (N := some 8) #[true, true, true, true, true, true, false, false] rfl rfl (one_of HT_.out (by kernel_rfl)) (by decide) (fun K hK => ?_)
  refine goes_ Try.func40 (by kernel_rfl) rfl #[.agg #[.int .u64 a0_1]] (by rfl) rfl rfl (by (try simp only [List.map_toArray, List.map_cons, List.map_nil]); first | done | rfl | (simp only [List.length_drop, List.length_take]; rfl)) ?_
  with_reducible refine (mranges_offAddr_addr.calls a0_1 t142 _ A3.out).mono ?_
  rintro e w8 ⟨rfl, hb⟩
  refine ⟨_, rfl, ?_⟩
  have n0_ := Aside0.mk (blk_below (g := gb139) (o := .cells #[.int .u64 a0_0, .int .u64 a0_1] 71 (0, 0)) (by (with_reducible repeat (first | refine blk_drewN ?_ _ | refine blk_drew ?_ | refine blk_alloc ?_ _)); exact BK139.out) hb)
  have n1_ := Aside0.mk (blk_below (g := gb140) (o := .cells #[.int .u64 0, .int .u64 0] 56 (0, 0)) (by (with_reducible repeat (first | refine blk_drewN ?_ _ | refine blk_drew ?_ | refine blk_alloc ?_ _)); exact BK140.out) hb)
  have n2_ := Aside0.mk (below_step (by repeat (first | (with_reducible first | exact HB.out | apply below_alloc | apply pw_below_drewN | apply below_drew1 | refine below_set ?_ GE139.out | refine below_set ?_ GE140.out) | exact HB.out)) hb)
  clear BK139
  clear BK140
  clear HB
  have BK139 := n0_
  have BK140 := n1_
  have HB := n2_
  clear n0_ n1_ n2_
  (try clear hb)
  (try clear hb2)
  (try clear hk)
  (try clear hi)
  refine hK.out _ _ ⟨(blk_cell BK139.out 0).trans rfl, (blk_cell BK139.out 1).trans rfl⟩ (fun hHeld => ?_)
  clear hK K
  refine norm_ (a' := ?_) ?_ ?_
  rotate_left
  · show Act.put _ (some 8) _ = _
    simp only [Act.put, List.setIfInBounds_toArray, List.set_cons_zero, List.set_cons_succ, i64_w, i32_w]
    rfl
  refine pure_ (i := 6) (N := some 9) (v := ?_) (a' := ?_) #[true, true, true, true, true, true, true, false] rfl rfl (any_of HT_.out (by kernel_rfl)) (fun _ _ _ h => h) (Or.inl ⟨by rfl, ?_⟩) ?_ ?_
  rotate_left
  · intro w'
    go_simp
    with_reducible rfl
  rotate_left
  · simp only [Act.put, List.setIfInBounds_toArray, List.set_cons_zero, List.set_cons_succ, i64_w, i32_w]
    rfl
  refine one_ (i := 7) (N := none) #[true, true, true, true, true, true, true, true] rfl rfl (one_of HT_.out (by kernel_rfl)) (by decide) (fun K hK => ?_)
  have hs9 : w8.cell? ⟨gb140, 0, none⟩ = some (.int .u64 0) := (blk_cell BK140.out 0).trans rfl
  have hfs9 := blk_frozen BK140.out 0
  have hns9_0 := NB139_140.out
  have hms9_0 := NB140_139.out
  have hs10 : w8.cell? ⟨gb140, 1, none⟩ = some (.int .u64 0) := (blk_cell BK140.out 1).trans rfl
  have hfs10 := blk_frozen BK140.out 1
  have hns10_0 := NB139_140.out
  have hms10_0 := NB140_139.out
  refine skip_ (w1 := ?_) (by rfl) rfl ?_ ?_
  rotate_left
  · go_simp
    rfl
  refine hK.out _ _ ⟨((cell_far (p := ⟨gb140, _, none⟩) NB139_140.out _).trans (((cell_far (p := ⟨gb140, _, none⟩) NB139_140.out _).trans (hHeld.1)))), ((cell_far (p := ⟨gb140, _, none⟩) NB139_140.out _).trans (((cell_far (p := ⟨gb140, _, none⟩) NB139_140.out _).trans (hHeld.2))))⟩ (fun hHeld => ?_)
  clear hK K
  refine done_ (done_of HT_.out (by kernel_rfl)) ?_
  try go_wp2
  refine bodyPost_ret (results_cell_row rfl _ _ gb140 56 #[.int .u64 t141, .int .u64 t142] (0, 0) _ rfl (by (with_reducible repeat (first | refine blk_drewN ?_ _ | refine blk_drew ?_ | refine blk_alloc ?_ _)); refine blk_put (cs := #[.int .u64 t141, .int .u64 0]) ?_ 1 _ rfl; (with_reducible repeat (first | refine blk_drewN ?_ _ | refine blk_drew ?_ | refine blk_alloc ?_ _)); refine blk_put (cs := #[.int .u64 0, .int .u64 0]) ?_ 0 _ rfl; (with_reducible repeat (first | refine blk_drewN ?_ _ | refine blk_drew ?_ | refine blk_alloc ?_ _)); exact BK140.out) Try.underlying56 rfl (by kernel_rfl)) rfl ?_
  exact ⟨by first | rfl | (simp [errW_none, errW_some] <;> rfl) | (simp [*, errW_none, errW_some] <;> rfl), by repeat (first | (with_reducible first | exact HB.out | apply below_alloc | apply pw_below_drewN | apply below_drew1 | refine below_set ?_ GE139.out | refine below_set ?_ GE140.out) | exact HB.out)⟩

/-! ### mranges_offAddr_sub: function 44 -/
def mranges_offAddr_sub.f (a0_0 : Int) (a1 : Int) : Option (Int) := some (IntKind.u64.wrap (a0_0 - a1))
set_option maxHeartbeats 8000000 in
set_option maxRecDepth 100000 in
theorem mranges_offAddr_sub.calls (a0_0 : Int) (a1 : Int) (r : Int) (w : World) (h : mranges_offAddr_sub.f a0_0 a1 = some r) :
    Calls Try.prog 44 #[.agg #[.int .u64 a0_0], .int .u64 a1] w fun e w' => e = .returned (.agg #[.int .u64 r]) ∧ Below w.heap.size w w' := by
  have hu69 := Try.underlying69
  have HB := Aside0.mk (Below.refl w.heap.size w)
  have H : (some (IntKind.u64.wrap (a0_0 - a1))) = some r := h
  clear h
  obtain rfl := Option.some.inj H
  go_enter Try.func44, Try.ntmps44
  go_wp2_with (first | ((with_reducible refine gate_dst (N := 2) rfl ?_); refine box_event ?hg (N := 2) ?hd (cs := #[.int .u64 a0_0]) (t := 69) ?hr ?_; (case hd => rfl); (case hg => rfl); (case hr => first | (go_simp; done) | (go_simp; rfl)); intro gb198 hg w3 hbox hb; have n0_ := Aside0.mk (below_step (by repeat (first | (with_reducible first | exact HB.out | apply below_alloc | apply pw_below_drewN | apply below_drew1) | exact HB.out)) hb); have n1_ := Aside0.mk (hbox); have n2_ := Aside0.mk ((by rw [hg]; exact (below_size (by repeat (first | (with_reducible first | exact HB.out | apply below_alloc | apply pw_below_drewN | apply below_drew1) | exact HB.out))) : w.heap.size ≤ gb198)); have n3_ := Aside0.mk ((by rw [hg]; exact (below_size (by repeat (first | (with_reducible first | exact HB.out | apply below_alloc | apply pw_below_drewN | apply below_drew1) | exact HB.out))) : w.heap.size ≤ gb198)); clear HB; have HB := n0_; have BK198 := n1_; have GW198 := n2_; have GE198 := n3_; clear n0_ n1_ n2_ n3_; clear hb hbox hg) | ((with_reducible refine gate_dst (N := 4) rfl ?_); refine box_event ?hg (N := 4) ?hd (cs := #[.int .u64 0]) (t := 69) ?hr ?_; (case hd => rfl); (case hg => rfl); (case hr => first | (go_simp; done) | (go_simp; rfl)); intro gb199 hg w4 hbox hb; have n0_ := Aside0.mk (blk_below (g := gb198) (o := .cells #[.int .u64 a0_0] 69 (0, 0)) (by (with_reducible repeat (first | refine blk_drewN ?_ _ | refine blk_drew ?_ | refine blk_alloc ?_ _)); exact BK198.out) hb); have n1_ := Aside0.mk (below_step (by repeat (first | (with_reducible first | exact HB.out | apply below_alloc | apply pw_below_drewN | apply below_drew1 | refine below_set ?_ GE198.out) | exact HB.out)) hb); have n2_ := Aside0.mk (hbox); have n3_ := Aside0.mk ((by rw [hg]; exact (below_size (by repeat (first | (with_reducible first | exact HB.out | apply below_alloc | apply pw_below_drewN | apply below_drew1 | refine below_set ?_ GE198.out) | exact HB.out))) : w.heap.size ≤ gb199)); have n4_ := Aside0.mk ((by rw [hg]; exact (below_size (by repeat (first | (with_reducible first | exact HB.out | apply below_alloc | apply pw_below_drewN | apply below_drew1 | refine below_set ?_ GE198.out) | exact HB.out))) : w.heap.size ≤ gb199)); have n5_ := Aside0.mk ((by rw [hg]; exact Nat.ne_of_lt (blk_lt (g := gb198) (o := .cells #[.int .u64 a0_0] 69 (0, 0)) (by (with_reducible repeat (first | refine blk_drewN ?_ _ | refine blk_drew ?_ | refine blk_alloc ?_ _)); exact BK198.out)) : gb198 ≠ gb199)); have n6_ := Aside0.mk ((by rw [hg]; exact Nat.ne_of_gt (blk_lt (g := gb198) (o := .cells #[.int .u64 a0_0] 69 (0, 0)) (by (with_reducible repeat (first | refine blk_drewN ?_ _ | refine blk_drew ?_ | refine blk_alloc ?_ _)); exact BK198.out)) : gb199 ≠ gb198)); clear BK198; clear HB; have BK198 := n0_; have HB := n1_; have BK199 := n2_; have GW199 := n3_; have GE199 := n4_; have NB198_199 := n5_; have NB199_198 := n6_; clear n0_ n1_ n2_ n3_ n4_ n5_ n6_; clear hb hbox hg; have hnb5 := NB198_199.out; have hnc5 := NB199_198.out; have hcz6_0 : w4.cell? ⟨gb198, 0, none⟩ = some (.int .u64 a0_0) := (blk_cell BK198.out 0).trans rfl; have hfz6_0 := blk_frozen BK198.out 0; have hcz7_0 : w4.cell? ⟨gb199, 0, none⟩ = some (.int .u64 0) := (blk_cell BK199.out 0).trans rfl; have hfz7_0 := blk_frozen BK199.out 0))
  refine bodyPost_ret (results_cell_row rfl _ _ gb199 69 #[.int .u64 (IntKind.u64.wrap (a0_0 - a1))] (0, 0) _ rfl (by (with_reducible repeat (first | refine blk_drewN ?_ _ | refine blk_drew ?_ | refine blk_alloc ?_ _)); refine blk_put (cs := #[.int .u64 0]) ?_ 0 _ rfl; (with_reducible repeat (first | refine blk_drewN ?_ _ | refine blk_drew ?_ | refine blk_alloc ?_ _)); exact BK199.out) Try.underlying69 rfl (by kernel_rfl)) rfl ?_
  exact ⟨by first | rfl | (simp [errW_none, errW_some] <;> rfl) | (simp [*, errW_none, errW_some] <;> rfl), by repeat (first | (with_reducible first | exact HB.out | apply below_alloc | apply pw_below_drewN | apply below_drew1 | refine below_set ?_ GE198.out | refine below_set ?_ GE199.out) | exact HB.out)⟩

/-! ### mranges_Size: function 27 -/
def mranges_Size.f (a0_0 : Int) (a0_1 : Int) : Option (Int) := (mranges_in.f a0_0 a0_1).bind fun bt248 => ((mranges_addrRange_size.f bt248.1 bt248.2).bind fun t250 => (some t250))
set_option maxHeartbeats 8000000 in
set_option maxRecDepth 100000 in
theorem mranges_Size.calls (a0_0 : Int) (a0_1 : Int) (r : Int) (w : World) (h : mranges_Size.f a0_0 a0_1 = some r) :
    Calls Try.prog 27 #[.agg #[.int .u64 a0_0, .int .u64 a0_1]] w fun e w' => e = .returned (.int .u64 r) ∧ Below w.heap.size w w' := by
  have hu56 := Try.underlying56
  have HB := Aside0.mk (Below.refl w.heap.size w)
  have H : ((mranges_in.f a0_0 a0_1).bind fun bt248 => ((mranges_addrRange_size.f bt248.1 bt248.2).bind fun t250 => (some t250))) = some r := h
  clear h
  replace H := Option.bind_eq_some_iff.mp H
  obtain ⟨⟨t248, t249⟩, A20, H⟩ := H
  replace H : ((mranges_addrRange_size.f t248 t249).bind fun t250 => (some t250)) = some r := H
  have A2 := Aside0.mk A20
  clear A20
  replace H := Option.bind_eq_some_iff.mp H
  obtain ⟨t250, A30, H⟩ := H
  replace H : (some t250) = some r := H
  have A3 := Aside0.mk A30
  clear A30
  obtain rfl := Option.some.inj H
  go_enter Try.func27, Try.ntmps27
  go_wp2_with (first | ((with_reducible refine gate_dst (N := 1) rfl ?_); refine box_event ?hg (N := 1) ?hd (cs := #[.int .u64 a0_0, .int .u64 a0_1]) (t := 56) ?hr ?_; (case hd => rfl); (case hg => rfl); (case hr => first | (go_simp; done) | (go_simp; rfl)); intro gb247 hg w4 hbox hb; have n0_ := Aside0.mk (below_step (by repeat (first | (with_reducible first | exact HB.out | apply below_alloc | apply pw_below_drewN | apply below_drew1) | exact HB.out)) hb); have n1_ := Aside0.mk (hbox); have n2_ := Aside0.mk ((by rw [hg]; exact (below_size (by repeat (first | (with_reducible first | exact HB.out | apply below_alloc | apply pw_below_drewN | apply below_drew1) | exact HB.out))) : w.heap.size ≤ gb247)); have n3_ := Aside0.mk ((by rw [hg]; exact (below_size (by repeat (first | (with_reducible first | exact HB.out | apply below_alloc | apply pw_below_drewN | apply below_drew1) | exact HB.out))) : w.heap.size ≤ gb247)); clear HB; have HB := n0_; have BK247 := n1_; have GW247 := n2_; have GE247 := n3_; clear n0_ n1_ n2_ n3_; clear hb hbox hg; have hcz5_0 : w4.cell? ⟨gb247, 0, none⟩ = some (.int .u64 a0_0) := (blk_cell BK247.out 0).trans rfl; have hcz5_1 : w4.cell? ⟨gb247, 1, none⟩ = some (.int .u64 a0_1) := (blk_cell BK247.out 1).trans rfl; have hfz5_0 := blk_frozen BK247.out 0; have hfz5_1 := blk_frozen BK247.out 1) | ((with_reducible refine gate_callee (f := 30) rfl ?_); refine goesL_ (some 4) rfl rfl Try.func30 (by kernel_rfl) rfl #[.agg #[.int .u64 a0_0, .int .u64 a0_1]] rfl (by (try simp only [List.map_toArray, List.map_cons, List.map_nil]); first | done | rfl | (simp only [List.length_drop, List.length_take]; rfl)) ?_; (with_reducible refine (mranges_in.calls a0_0 a0_1 t248 t249 _ A2.out).mono ?_); rintro e w6 ⟨rfl, hb⟩; refine ⟨_, rfl, ?_⟩; have n0_ := Aside0.mk (blk_below (g := gb247) (o := .cells #[.int .u64 a0_0, .int .u64 a0_1] 56 (0, 0)) (by (with_reducible repeat (first | refine blk_drewN ?_ _ | refine blk_drew ?_ | refine blk_alloc ?_ _)); exact BK247.out) hb); have n1_ := Aside0.mk (below_step (by repeat (first | (with_reducible first | exact HB.out | apply below_alloc | apply pw_below_drewN | apply below_drew1 | refine below_set ?_ GE247.out) | exact HB.out)) hb); clear BK247; clear HB; have BK247 := n0_; have HB := n1_; clear n0_ n1_; (try clear hb); (try clear hb2); (try clear hk); (try clear hi)) | ((with_reducible refine gate_callee (f := 38) rfl ?_); refine goesL_ (some 5) rfl rfl Try.func38 (by kernel_rfl) rfl #[.agg #[.int .u64 t248, .int .u64 t249]] rfl (by (try simp only [List.map_toArray, List.map_cons, List.map_nil]); first | done | rfl | (simp only [List.length_drop, List.length_take]; rfl)) ?_; (with_reducible refine (mranges_addrRange_size.calls t248 t249 t250 _ A3.out).mono ?_); rintro e w7 ⟨rfl, hb⟩; refine ⟨_, rfl, ?_⟩; have n0_ := Aside0.mk (blk_below (g := gb247) (o := .cells #[.int .u64 a0_0, .int .u64 a0_1] 56 (0, 0)) (by (with_reducible repeat (first | refine blk_drewN ?_ _ | refine blk_drew ?_ | refine blk_alloc ?_ _)); exact BK247.out) hb); have n1_ := Aside0.mk (below_step (by repeat (first | (with_reducible first | exact HB.out | apply below_alloc | apply pw_below_drewN | apply below_drew1 | refine below_set ?_ GE247.out) | exact HB.out)) hb); clear BK247; clear HB; have BK247 := n0_; have HB := n1_; clear n0_ n1_; (try clear hb); (try clear hb2); (try clear hk); (try clear hi)))
  go_ret
  exact ⟨by first | rfl | (simp [errW_none, errW_some] <;> rfl) | (simp [*, errW_none, errW_some] <;> rfl), by repeat (first | (with_reducible first | exact HB.out | apply below_alloc | apply pw_below_drewN | apply below_drew1 | refine below_set ?_ GE247.out) | exact HB.out)⟩

/-! ### impl_Size: function 18 -/
def impl_Size.f (a0_0 : Int) (a0_1 : Int) : Option (Int) := (mranges_Size.f a0_0 a0_1).bind fun t252 => (some t252)
set_option maxHeartbeats 8000000 in
set_option maxRecDepth 100000 in
theorem impl_Size.calls (a0_0 : Int) (a0_1 : Int) (r : Int) (w : World) (h : impl_Size.f a0_0 a0_1 = some r) :
    Calls Try.prog 18 #[.agg #[.int .u64 a0_0, .int .u64 a0_1]] w fun e w' => e = .returned (.int .u64 r) ∧ Below w.heap.size w w' := by
  have hu35 := Try.underlying35
  have HB := Aside0.mk (Below.refl w.heap.size w)
  have H : ((mranges_Size.f a0_0 a0_1).bind fun t252 => (some t252)) = some r := h
  clear h
  replace H := Option.bind_eq_some_iff.mp H
  obtain ⟨t252, A20, H⟩ := H
  replace H : (some t252) = some r := H
  have A2 := Aside0.mk A20
  clear A20
  obtain rfl := Option.some.inj H
  go_enter Try.func18, Try.ntmps18
  go_wp2_with (first | ((with_reducible refine gate_dst (N := 1) rfl ?_); refine box_event ?hg (N := 1) ?hd (cs := #[.int .u64 a0_0, .int .u64 a0_1]) (t := 35) ?hr ?_; (case hd => rfl); (case hg => rfl); (case hr => first | (go_simp; done) | (go_simp; rfl)); intro gb251 hg w3 hbox hb; have n0_ := Aside0.mk (below_step (by repeat (first | (with_reducible first | exact HB.out | apply below_alloc | apply pw_below_drewN | apply below_drew1) | exact HB.out)) hb); have n1_ := Aside0.mk (hbox); have n2_ := Aside0.mk ((by rw [hg]; exact (below_size (by repeat (first | (with_reducible first | exact HB.out | apply below_alloc | apply pw_below_drewN | apply below_drew1) | exact HB.out))) : w.heap.size ≤ gb251)); have n3_ := Aside0.mk ((by rw [hg]; exact (below_size (by repeat (first | (with_reducible first | exact HB.out | apply below_alloc | apply pw_below_drewN | apply below_drew1) | exact HB.out))) : w.heap.size ≤ gb251)); clear HB; have HB := n0_; have BK251 := n1_; have GW251 := n2_; have GE251 := n3_; clear n0_ n1_ n2_ n3_; clear hb hbox hg; have hcz4_0 : w3.cell? ⟨gb251, 0, none⟩ = some (.int .u64 a0_0) := (blk_cell BK251.out 0).trans rfl; have hcz4_1 : w3.cell? ⟨gb251, 1, none⟩ = some (.int .u64 a0_1) := (blk_cell BK251.out 1).trans rfl; have hfz4_0 := blk_frozen BK251.out 0; have hfz4_1 := blk_frozen BK251.out 1) | ((with_reducible refine gate_callee (f := 27) rfl ?_); refine goesL_ (some 4) rfl rfl Try.func27 (by kernel_rfl) rfl #[.agg #[.int .u64 a0_0, .int .u64 a0_1]] rfl (by (try simp only [List.map_toArray, List.map_cons, List.map_nil]); first | done | rfl | (simp only [List.length_drop, List.length_take]; rfl)) ?_; (with_reducible refine (mranges_Size.calls a0_0 a0_1 t252 _ A2.out).mono ?_); rintro e w5 ⟨rfl, hb⟩; refine ⟨_, rfl, ?_⟩; have n0_ := Aside0.mk (blk_below (g := gb251) (o := .cells #[.int .u64 a0_0, .int .u64 a0_1] 35 (0, 0)) (by (with_reducible repeat (first | refine blk_drewN ?_ _ | refine blk_drew ?_ | refine blk_alloc ?_ _)); exact BK251.out) hb); have n1_ := Aside0.mk (below_step (by repeat (first | (with_reducible first | exact HB.out | apply below_alloc | apply pw_below_drewN | apply below_drew1 | refine below_set ?_ GE251.out) | exact HB.out)) hb); clear BK251; clear HB; have BK251 := n0_; have HB := n1_; clear n0_ n1_; (try clear hb); (try clear hb2); (try clear hk); (try clear hi)))
  go_ret
  exact ⟨by first | rfl | (simp [errW_none, errW_some] <;> rfl) | (simp [*, errW_none, errW_some] <;> rfl), by repeat (first | (with_reducible first | exact HB.out | apply below_alloc | apply pw_below_drewN | apply below_drew1 | refine below_set ?_ GE251.out) | exact HB.out)⟩

end Go.Proofs.Yticjdbdhnfmidaa.K
