/- The walks of spec.Same and spec.Runs. (Lines that the kit's print has written for this claim, grouped by assemble.py; hand contracts take the place of what it does not print.) -/
import Derived.Test.YticjdbdhnfmidaaK0
namespace Go.Proofs.Yticjdbdhnfmidaa.K
open Go.RowKit Go.Proofs.YticjdbdhnfmidaaW.PrintWords Go.Proofs.YticjdbdhnfmidaaW.PrintLast Go.Proofs.YticjdbdhnfmidaaW.PrintMore
attribute [local go_sem] max2_int min2_int max_two min_two max_three min_three max_four min_four   -- for this text's walks alone
set_option linter.unusedVariables false
set_option linter.unusedSimpArgs false

theorem eqA35 (d : Nat) (w : World) (x0 y0 : Int) (x1 y1 : Int) :
    (Op.equalIn (d + 2) 35 (.agg #[.int .u64 x0, .int .u64 x1]) (.agg #[.int .u64 y0, .int .u64 y1])).run Try.prog w = .ok (x0 == y0 && (x1 == y1)) w := by
  refine eqA_of Try.underlying35 (by kernel_rfl) ?_
  refine eqf_cons (by rfl) (by go_simp; rfl) (by go_simp; rfl) (by go_simp) ?_
  exact eqf_last (by rfl) (by go_simp; rfl) (by go_simp; rfl) (by go_simp)

attribute [local go_sem high] eqA35
/-! ### spec_Same: function 13 -/
def spec_Same.l0 : Nat → List (S35) → List (S35) → Int → Option (Bool)
  | 0, _, _, _ => none
  | k + 1, x0, x1, x5 => if x5 < (x0.length : Int) then (if 0 ≤ x5 then (if x5 < (x1.length : Int) then (if (!(((rd_T35 x0 x5).f0) == ((rd_T35 x1 x5).f0)) || (!(((rd_T35 x0 x5).f1) == ((rd_T35 x1 x5).f1)))) = true then (some false) else (spec_Same.l0 k x0 x1 (wrap64 (x5 + 1)))) else (none)) else (none)) else (some true)
def spec_Same.f (k : Nat) (l0 : List (S35)) (l1 : List (S35)) : Option (Bool) := if (l0.length : Int) = (l1.length : Int) then (spec_Same.l0 k l0 l1 0) else (some false)
theorem spec_Same.mono_l : ∀ k, (∀ y0 y1 y2, LeO (spec_Same.l0 k y0 y1 y2) (spec_Same.l0 (k + 1) y0 y1 y2))
  | 0 => fun _ _ _ r h => by simp [spec_Same.l0] at h
  | k + 1 => by
    have ih0 := spec_Same.mono_l k
    · intro y0 y1 y2
      unfold spec_Same.l0
      repeat' first
      | (with_reducible exact ih0 _ _ _)
      | (with_reducible exact LeO.refl _)
      | (with_reducible exact LeO.none _)
      | (with_reducible refine LeO.ite ?_ ?_)
      | (with_reducible refine LeO.bind ?_ (fun _ => ?_))
      | exact ih0 _ _ _
      | exact LeO.none _
      | refine LeO.ite ?_ ?_
      | refine LeO.bind ?_ (fun _ => ?_)
theorem spec_Same.mono : ∀ a0 a1 k, LeO (spec_Same.f k a0 a1) (spec_Same.f (k + 1) a0 a1) := by
  intro a0 a1 k
  have ih0 := spec_Same.mono_l k
  unfold spec_Same.f
  repeat' first
      | (with_reducible exact ih0 _ _ _)
      | (with_reducible exact LeO.refl _)
      | (with_reducible exact LeO.none _)
      | (with_reducible refine LeO.ite ?_ ?_)
      | (with_reducible refine LeO.bind ?_ (fun _ => ?_))
      | exact ih0 _ _ _
      | exact LeO.none _
      | refine LeO.ite ?_ ?_
      | refine LeO.bind ?_ (fun _ => ?_)
set_option maxHeartbeats 8000000 in
set_option maxRecDepth 100000 in
theorem spec_Same.calls (k : Nat) (A0 : Option Addr) (c0 : Nat) (l0 : List (S35)) (A1 : Option Addr) (c1 : Nat) (l1 : List (S35)) (r : Bool) (w : World) (hr0 : Kd.C k35 w A0 l0.length l0) (hc0 : l0.length ≤ c0) (hr1 : Kd.C k35 w A1 l1.length l1) (hc1 : l1.length ≤ c1) (h : spec_Same.f k l0 l1 = some r) :
    Calls Try.prog 13 #[.slice A0 l0.length c0, .slice A1 l1.length c1] w fun e w' => e = .returned (.bool r) ∧ Drawn0 w w' := by
  have hu35 := Try.underlying35
  have HR0 := Aside0.mk hr0
  have HC0 := Aside0.mk hc0
  clear hr0 hc0
  have HR1 := Aside0.mk hr1
  have HC1 := Aside0.mk hc1
  clear hr1 hc1
  have H : (if (l0.length : Int) = (l1.length : Int) then (spec_Same.l0 k l0 l1 0) else (some false)) = some r := h
  clear h
  by_cases c3 : (l0.length : Int) = (l1.length : Int)
  · rw [if_pos c3] at H
    have c3b0 : ((l0.length : Int) == (l1.length : Int)) = true := beq_iff_eq.mpr c3
    have c3b1 : ((l0.length : Int) != (l1.length : Int)) = false := bne_eq_false_iff_eq.mpr c3
    have c3b2 : (l0.length == l1.length) = true := by first | simpa using c3 | (simp at c3 ⊢; omega)
    clear c3
    have H' := Aside0.mk H
    clear H
    go_enter Try.func13, Try.ntmps13
    go_wp2
    repeat (go_quiet (fail); try go_wp2)
    go_loopg [5] k (fun kq v5 w' => ∃ (x5_1 : Int), v5 = .int .i64 x5_1 ∧ Aside0 (spec_Same.l0 kq l0 l1 x5_1 = some r) ∧ Aside0 (kq ≤ k) ∧ Drawn0 w w')
    case atStart => exact ⟨(0), (by first | rfl | (simp; done) | (simp [*]; done)), H', ⟨Nat.le_refl _⟩, by repeat (first | exact Drawn0.refl _ | apply Drawn0.step)⟩
    case round =>
      clear H'
      try clear c1
      try clear p2
      try clear c3
      try clear c3b0
      try clear c3b1
      try clear c3b2
      obtain ⟨x5_1, rfl, HA, HK1, ⟨m1, rfl⟩⟩ := hrel
      cases gk with
      | zero => exact absurd HA.out (by simp [spec_Same.l0])
      | succ k1 =>
        have H := HA.out
        clear HA
        simp only [spec_Same.l0] at H
        by_cases c4 : x5_1 < (l0.length : Int)
        · rw [if_pos c4] at H
          have c4b0 : decide (x5_1 < (l0.length : Int)) = true := decide_eq_true c4
          clear c4
          by_cases c5 : 0 ≤ x5_1
          · rw [if_pos c5] at H
            have c5b0 : decide (0 ≤ x5_1) = true := decide_eq_true c5
            clear c5
            by_cases c6 : x5_1 < (l1.length : Int)
            · rw [if_pos c6] at H
              have c6b0 : decide (x5_1 < (l1.length : Int)) = true := decide_eq_true c6
              clear c6
              by_cases c7 : (!(((rd_T35 l0 x5_1).f0) == ((rd_T35 l1 x5_1).f0)) || (!(((rd_T35 l0 x5_1).f1) == ((rd_T35 l1 x5_1).f1)))) = true
              · rw [if_pos c7] at H
                have c7b0 : (!(((rd_T35 l0 x5_1).f0) == ((rd_T35 l1 x5_1).f0)) || (!(((rd_T35 l0 x5_1).f1) == ((rd_T35 l1 x5_1).f1)))) = true := c7
                clear c7
                obtain rfl := Option.some.inj H
                have p221 : 0 ≤ (x5_1 : Int) := of_decide_eq_true (by first | (with_reducible assumption) | assumption)
                have q221 : x5_1 < (l0.length : Int) := of_decide_eq_true (by first | (with_reducible assumption) | assumption)
                obtain ⟨ad221, e221, hx221_0, hx221_1⟩ := at_T35 HR0.out x5_1 p221 q221
                cases e221
                replace p221 := eq_true p221
                replace q221 := eq_true q221
                have p222 : 0 ≤ (x5_1 : Int) := of_decide_eq_true (by first | (with_reducible assumption) | assumption)
                have q222 : x5_1 < (l1.length : Int) := of_decide_eq_true (by first | (with_reducible assumption) | assumption)
                obtain ⟨ad222, e222, hx222_0, hx222_1⟩ := at_T35 HR1.out x5_1 p222 q222
                cases e222
                replace p222 := eq_true p222
                replace q222 := eq_true q222
                go_wp2
                repeat (go_quiet (fail); try go_wp2)
                go_ret
                exact ⟨by first | rfl | (simp; done) | (simp [*]; done), by repeat (first | exact Drawn0.refl _ | apply Drawn0.step)⟩
              · rw [if_neg c7] at H
                have c7b0 : (!(((rd_T35 l0 x5_1).f0) == ((rd_T35 l1 x5_1).f0)) || (!(((rd_T35 l0 x5_1).f1) == ((rd_T35 l1 x5_1).f1)))) = false := by simpa using c7
                clear c7
                have H' := Aside0.mk H
                clear H
                have p221 : 0 ≤ (x5_1 : Int) := of_decide_eq_true (by first | (with_reducible assumption) | assumption)
                have q221 : x5_1 < (l0.length : Int) := of_decide_eq_true (by first | (with_reducible assumption) | assumption)
                obtain ⟨ad221, e221, hx221_0, hx221_1⟩ := at_T35 HR0.out x5_1 p221 q221
                cases e221
                replace p221 := eq_true p221
                replace q221 := eq_true q221
                have p222 : 0 ≤ (x5_1 : Int) := of_decide_eq_true (by first | (with_reducible assumption) | assumption)
                have q222 : x5_1 < (l1.length : Int) := of_decide_eq_true (by first | (with_reducible assumption) | assumption)
                obtain ⟨ad222, e222, hx222_0, hx222_1⟩ := at_T35 HR1.out x5_1 p222 q222
                cases e222
                replace p222 := eq_true p222
                replace q222 := eq_true q222
                go_wp2
                repeat (go_quiet (fail); try go_wp2)
                go_roundg k1
                case measure => have := HK1.out; omega
                case rel => exact ⟨(wrap64 (x5_1 + 1)), (by first | rfl | (simp; done) | (simp [*]; done)), H', ⟨by have := HK1.out; omega⟩, by repeat (first | exact Drawn0.refl _ | apply Drawn0.step)⟩
            · rw [if_neg c6] at H
              exact absurd H (by simp)
          · rw [if_neg c5] at H
            exact absurd H (by simp)
        · rw [if_neg c4] at H
          have c4b0 : decide (x5_1 < (l0.length : Int)) = false := decide_eq_false c4
          clear c4
          obtain rfl := Option.some.inj H
          go_wp2
          repeat (go_quiet (fail); try go_wp2)
          go_ret
          exact ⟨by first | rfl | (simp; done) | (simp [*]; done), by repeat (first | exact Drawn0.refl _ | apply Drawn0.step)⟩
  · rw [if_neg c3] at H
    have c3b0 : ((l0.length : Int) == (l1.length : Int)) = false := beq_eq_false_iff_ne.mpr c3
    have c3b1 : ((l0.length : Int) != (l1.length : Int)) = true := bne_iff_ne.mpr c3
    have c3b2 : (l0.length == l1.length) = false := by first | simpa using c3 | (simp at c3 ⊢; omega)
    obtain rfl := Option.some.inj H
    go_enter Try.func13, Try.ntmps13
    go_wp2
    repeat (go_quiet (fail); try go_wp2)
    go_ret
    exact ⟨by first | rfl | (simp; done) | (simp [*]; done), by repeat (first | exact Drawn0.refl _ | apply Drawn0.step)⟩

/-! ### spec_Runs: function 14 -/
def spec_Runs.l0 : Nat → List Bool → List (S35) → List Bool → Int → Int → Option ((List (S35)))
  | 0, _, _, _, _, _ => none
  | k + 1, x0, x3, x6, x7, x8 => if x8 < x7 then (if 0 ≤ x8 then (if x8 < (x6.length : Int) then (if rdOf false x6 x8 = true then (if x8 = 0 then (if x3.length < 8796093022208 then ((some (x3 ++ [(⟨IntKind.u64.wrap (x8), IntKind.u64.wrap (x8)⟩ : S35)] : List (S35))).bind fun y224 => (if 0 ≤ (wrap64 ((y224.length : Int) - 1)) then (if (wrap64 ((y224.length : Int) - 1)) < (y224.length : Int) then (spec_Runs.l0 k x0 (y224.set ((wrap64 ((y224.length : Int) - 1)) : Int).toNat (⟨(rd_T35 y224 (wrap64 ((y224.length : Int) - 1))).f0, IntKind.u64.wrap (((rd_T35 y224 (wrap64 ((y224.length : Int) - 1))).f1) + 1)⟩ : S35)) x6 x7 (wrap64 (x8 + 1))) else (none)) else (none))) else (none)) else (if 0 ≤ (wrap64 (x8 - 1)) then (if (wrap64 (x8 - 1)) < (x0.length : Int) then (if (rdOf false x0 (wrap64 (x8 - 1)) = true) then (if 0 ≤ (wrap64 ((x3.length : Int) - 1)) then (if (wrap64 ((x3.length : Int) - 1)) < (x3.length : Int) then (spec_Runs.l0 k x0 (x3.set ((wrap64 ((x3.length : Int) - 1)) : Int).toNat (⟨(rd_T35 x3 (wrap64 ((x3.length : Int) - 1))).f0, IntKind.u64.wrap (((rd_T35 x3 (wrap64 ((x3.length : Int) - 1))).f1) + 1)⟩ : S35)) x6 x7 (wrap64 (x8 + 1))) else (none)) else (none)) else (if x3.length < 8796093022208 then ((some (x3 ++ [(⟨IntKind.u64.wrap (x8), IntKind.u64.wrap (x8)⟩ : S35)] : List (S35))).bind fun y232 => (if 0 ≤ (wrap64 ((y232.length : Int) - 1)) then (if (wrap64 ((y232.length : Int) - 1)) < (y232.length : Int) then (spec_Runs.l0 k x0 (y232.set ((wrap64 ((y232.length : Int) - 1)) : Int).toNat (⟨(rd_T35 y232 (wrap64 ((y232.length : Int) - 1))).f0, IntKind.u64.wrap (((rd_T35 y232 (wrap64 ((y232.length : Int) - 1))).f1) + 1)⟩ : S35)) x6 x7 (wrap64 (x8 + 1))) else (none)) else (none))) else (none))) else (none)) else (none))) else (spec_Runs.l0 k x0 x3 x6 x7 (wrap64 (x8 + 1)))) else (none)) else (none)) else (some x3)
def spec_Runs.f (k : Nat) (l0 : List Bool) : Option ((List (S35))) := spec_Runs.l0 k l0 ([] : List (S35)) l0 (l0.length : Int) 0
theorem spec_Runs.mono_l : ∀ k, (∀ y0 y1 y2 y3 y4, LeO (spec_Runs.l0 k y0 y1 y2 y3 y4) (spec_Runs.l0 (k + 1) y0 y1 y2 y3 y4))
  | 0 => fun _ _ _ _ _ r h => by simp [spec_Runs.l0] at h
  | k + 1 => by
    have ih0 := spec_Runs.mono_l k
    · intro y0 y1 y2 y3 y4
      unfold spec_Runs.l0
      repeat' first
      | (with_reducible exact ih0 _ _ _ _ _)
      | (with_reducible exact LeO.refl _)
      | (with_reducible exact LeO.none _)
      | (with_reducible refine LeO.ite ?_ ?_)
      | (with_reducible refine LeO.bind ?_ (fun _ => ?_))
      | exact ih0 _ _ _ _ _
      | exact LeO.none _
      | refine LeO.ite ?_ ?_
      | refine LeO.bind ?_ (fun _ => ?_)
theorem spec_Runs.mono : ∀ a0 k, LeO (spec_Runs.f k a0) (spec_Runs.f (k + 1) a0) := by
  intro a0 k
  have ih0 := spec_Runs.mono_l k
  unfold spec_Runs.f
  repeat' first
      | (with_reducible exact ih0 _ _ _ _ _)
      | (with_reducible exact LeO.refl _)
      | (with_reducible exact LeO.none _)
      | (with_reducible refine LeO.ite ?_ ?_)
      | (with_reducible refine LeO.bind ?_ (fun _ => ?_))
      | exact ih0 _ _ _ _ _
      | exact LeO.none _
      | refine LeO.ite ?_ ?_
      | refine LeO.bind ?_ (fun _ => ?_)
set_option maxHeartbeats 8000000 in
set_option maxRecDepth 100000 in
theorem spec_Runs.calls (k : Nat) (A0 : Option Addr) (c0 : Nat) (l0 : List Bool) (r : List (S35)) (w : World) (hr0 : Kd.C Kd.bool w A0 l0.length l0) (hc0 : l0.length ≤ c0) (h : spec_Runs.f k l0 = some r) :
    Calls Try.prog 14 #[.slice A0 l0.length c0] w fun e w' => ∃ v0_ : Value, e = .returned (v0_) ∧ Kd.R k35 35 w' w.heap.size (fun _ => True) v0_ r ∧ Below w.heap.size w w' := by
  have hu35 := Try.underlying35
  have HR0 := Aside0.mk hr0
  have HC0 := Aside0.mk hc0
  clear hr0 hc0
  have HB := Aside0.mk (Below.refl w.heap.size w)
  have H : (spec_Runs.l0 k l0 ([] : List (S35)) l0 (l0.length : Int) 0) = some r := h
  clear h
  have H' := Aside0.mk H
  clear H
  go_enter Try.func14, Try.ntmps14
  go_wp2
  go_loopg [3, 8] k (fun kq v3 v8 w' => ∃ (x3_1 : List (S35)) (x8_1 : Int), v8 = .int .i64 x8_1 ∧ Aside0 (spec_Runs.l0 kq l0 x3_1 l0 (l0.length : Int) x8_1 = some r) ∧ Aside0 (kq ≤ k) ∧ Aside0 (Kd.R k35 35 w' w.heap.size (fun _ => True) v3 x3_1) ∧ Aside0 (Below w.heap.size w w'))
  case atStart => exact ⟨(([] : List (S35))), (0), (by first | rfl | (simp; done) | (simp [*]; done)), H', ⟨Nat.le_refl _⟩, ⟨by first | exact Kd.R_nil _ _ _ _ _ | exact Kd.N_nil _ _ _ _ _ | exact Kd.V_nil _ _ _ _ _ | exact Kd.Q_nil _ _ _ _ _ | exact Kd.S_nil _ _ _ _ _⟩, ⟨by repeat (first | (with_reducible first | exact HB.out | apply below_alloc | apply pw_below_drewN | apply below_drew1) | exact HB.out)⟩⟩
  case round =>
    clear H'
    try clear c1
    obtain ⟨x3_1, x8_1, rfl, HA, HK1, HO_3, HB⟩ := hrel
    cases gk with
    | zero => exact absurd HA.out (by simp [spec_Runs.l0])
    | succ k1 =>
      have H := HA.out
      clear HA
      simp only [spec_Runs.l0] at H
      by_cases c2 : x8_1 < (l0.length : Int)
      · rw [if_pos c2] at H
        have c2b0 : decide (x8_1 < (l0.length : Int)) = true := decide_eq_true c2
        clear c2
        by_cases c3 : 0 ≤ x8_1
        · rw [if_pos c3] at H
          have c3b0 : decide (0 ≤ x8_1) = true := decide_eq_true c3
          clear c3
          by_cases c4 : x8_1 < (l0.length : Int)
          · rw [if_pos c4] at H
            have c4b0 : decide (x8_1 < (l0.length : Int)) = true := decide_eq_true c4
            clear c4
            obtain ⟨bq5, hbq5⟩ : ∃ b_ : Bool, b_ = (rdOf false l0 x8_1) := ⟨_, rfl⟩
            replace H : (if bq5 = true then (if x8_1 = 0 then (if x3_1.length < 8796093022208 then ((some (x3_1 ++ [(⟨IntKind.u64.wrap (x8_1), IntKind.u64.wrap (x8_1)⟩ : S35)] : List (S35))).bind fun y224 => (if 0 ≤ (wrap64 ((y224.length : Int) - 1)) then (if (wrap64 ((y224.length : Int) - 1)) < (y224.length : Int) then (spec_Runs.l0 k1 l0 (y224.set ((wrap64 ((y224.length : Int) - 1)) : Int).toNat (⟨(rd_T35 y224 (wrap64 ((y224.length : Int) - 1))).f0, IntKind.u64.wrap (((rd_T35 y224 (wrap64 ((y224.length : Int) - 1))).f1) + 1)⟩ : S35)) l0 (l0.length : Int) (wrap64 (x8_1 + 1))) else (none)) else (none))) else (none)) else (if 0 ≤ (wrap64 (x8_1 - 1)) then (if (wrap64 (x8_1 - 1)) < (l0.length : Int) then (if (rdOf false l0 (wrap64 (x8_1 - 1)) = true) then (if 0 ≤ (wrap64 ((x3_1.length : Int) - 1)) then (if (wrap64 ((x3_1.length : Int) - 1)) < (x3_1.length : Int) then (spec_Runs.l0 k1 l0 (x3_1.set ((wrap64 ((x3_1.length : Int) - 1)) : Int).toNat (⟨(rd_T35 x3_1 (wrap64 ((x3_1.length : Int) - 1))).f0, IntKind.u64.wrap (((rd_T35 x3_1 (wrap64 ((x3_1.length : Int) - 1))).f1) + 1)⟩ : S35)) l0 (l0.length : Int) (wrap64 (x8_1 + 1))) else (none)) else (none)) else (if x3_1.length < 8796093022208 then ((some (x3_1 ++ [(⟨IntKind.u64.wrap (x8_1), IntKind.u64.wrap (x8_1)⟩ : S35)] : List (S35))).bind fun y232 => (if 0 ≤ (wrap64 ((y232.length : Int) - 1)) then (if (wrap64 ((y232.length : Int) - 1)) < (y232.length : Int) then (spec_Runs.l0 k1 l0 (y232.set ((wrap64 ((y232.length : Int) - 1)) : Int).toNat (⟨(rd_T35 y232 (wrap64 ((y232.length : Int) - 1))).f0, IntKind.u64.wrap (((rd_T35 y232 (wrap64 ((y232.length : Int) - 1))).f1) + 1)⟩ : S35)) l0 (l0.length : Int) (wrap64 (x8_1 + 1))) else (none)) else (none))) else (none))) else (none)) else (none))) else (spec_Runs.l0 k1 l0 x3_1 l0 (l0.length : Int) (wrap64 (x8_1 + 1)))) = some r := by rw [← hbq5] at H; exact H
            have Nbq5 := Aside0.mk hbq5
            clear hbq5
            by_cases c6 : bq5 = true
            · subst c6
              have H1 : (if x8_1 = 0 then (if x3_1.length < 8796093022208 then ((some (x3_1 ++ [(⟨IntKind.u64.wrap (x8_1), IntKind.u64.wrap (x8_1)⟩ : S35)] : List (S35))).bind fun y224 => (if 0 ≤ (wrap64 ((y224.length : Int) - 1)) then (if (wrap64 ((y224.length : Int) - 1)) < (y224.length : Int) then (spec_Runs.l0 k1 l0 (y224.set ((wrap64 ((y224.length : Int) - 1)) : Int).toNat (⟨(rd_T35 y224 (wrap64 ((y224.length : Int) - 1))).f0, IntKind.u64.wrap (((rd_T35 y224 (wrap64 ((y224.length : Int) - 1))).f1) + 1)⟩ : S35)) l0 (l0.length : Int) (wrap64 (x8_1 + 1))) else (none)) else (none))) else (none)) else (if 0 ≤ (wrap64 (x8_1 - 1)) then (if (wrap64 (x8_1 - 1)) < (l0.length : Int) then (if (rdOf false l0 (wrap64 (x8_1 - 1)) = true) then (if 0 ≤ (wrap64 ((x3_1.length : Int) - 1)) then (if (wrap64 ((x3_1.length : Int) - 1)) < (x3_1.length : Int) then (spec_Runs.l0 k1 l0 (x3_1.set ((wrap64 ((x3_1.length : Int) - 1)) : Int).toNat (⟨(rd_T35 x3_1 (wrap64 ((x3_1.length : Int) - 1))).f0, IntKind.u64.wrap (((rd_T35 x3_1 (wrap64 ((x3_1.length : Int) - 1))).f1) + 1)⟩ : S35)) l0 (l0.length : Int) (wrap64 (x8_1 + 1))) else (none)) else (none)) else (if x3_1.length < 8796093022208 then ((some (x3_1 ++ [(⟨IntKind.u64.wrap (x8_1), IntKind.u64.wrap (x8_1)⟩ : S35)] : List (S35))).bind fun y232 => (if 0 ≤ (wrap64 ((y232.length : Int) - 1)) then (if (wrap64 ((y232.length : Int) - 1)) < (y232.length : Int) then (spec_Runs.l0 k1 l0 (y232.set ((wrap64 ((y232.length : Int) - 1)) : Int).toNat (⟨(rd_T35 y232 (wrap64 ((y232.length : Int) - 1))).f0, IntKind.u64.wrap (((rd_T35 y232 (wrap64 ((y232.length : Int) - 1))).f1) + 1)⟩ : S35)) l0 (l0.length : Int) (wrap64 (x8_1 + 1))) else (none)) else (none))) else (none))) else (none)) else (none))) = some r := by rw [if_pos rfl] at H; exact H
              clear H
              have H := H1
              clear H1
              by_cases c7 : x8_1 = 0
              · rw [if_pos c7] at H
                have c7b0 : (x8_1 == 0) = true := beq_iff_eq.mpr c7
                have c7b1 : (x8_1 != 0) = false := bne_eq_false_iff_eq.mpr c7
                clear c7
                by_cases c8 : x3_1.length < 8796093022208
                · rw [if_pos c8] at H
                  have LMc8 := Aside0.mk c8
                  clear c8
                  obtain ⟨y224, hy224⟩ : ∃ y_ : List (S35), y_ = (x3_1 ++ [(⟨IntKind.u64.wrap (x8_1), IntKind.u64.wrap (x8_1)⟩ : S35)]) := ⟨_, rfl⟩
                  replace H : (if 0 ≤ (wrap64 ((y224.length : Int) - 1)) then (if (wrap64 ((y224.length : Int) - 1)) < (y224.length : Int) then (spec_Runs.l0 k1 l0 (y224.set ((wrap64 ((y224.length : Int) - 1)) : Int).toNat (⟨(rd_T35 y224 (wrap64 ((y224.length : Int) - 1))).f0, IntKind.u64.wrap (((rd_T35 y224 (wrap64 ((y224.length : Int) - 1))).f1) + 1)⟩ : S35)) l0 (l0.length : Int) (wrap64 (x8_1 + 1))) else (none)) else (none)) = some r := by first | (rw [hy224]; with_reducible exact H) | (have H2_ := (Option.bind_some _ _).symm.trans H; rw [hy224]; with_reducible exact H2_) | (have H2_ := (Option.bind_some _ _).symm.trans H; with_reducible exact H2_) | with_reducible exact H | (rw [hy224]; exact H) | exact H
                  have Ny224 := Aside0.mk hy224
                  clear hy224
                  obtain ⟨ji9, hji9⟩ : ∃ j_ : Int, (wrap64 ((y224.length : Int) - 1)) = j_ := ⟨_, rfl⟩
                  replace H : (if 0 ≤ (ji9) then (if (ji9) < (y224.length : Int) then (spec_Runs.l0 k1 l0 (y224.set ((ji9) : Int).toNat (⟨(rd_T35 y224 (ji9)).f0, IntKind.u64.wrap (((rd_T35 y224 (ji9)).f1) + 1)⟩ : S35)) l0 (l0.length : Int) (wrap64 (x8_1 + 1))) else (none)) else (none)) = some r := by first | (rw [hji9] at H; exact H) | (simp only [hji9] at H ⊢; exact H)
                  have hji9w : (IntKind.i64.wrap ((y224.length : Int) - 1)) = ji9 := (i64_w _).trans hji9
                  by_cases c10 : 0 ≤ (ji9)
                  · rw [if_pos c10] at H
                    have c10b0 : decide (0 ≤ (ji9)) = true := decide_eq_true c10
                    clear c10
                    by_cases c11 : (ji9) < (y224.length : Int)
                    · rw [if_pos c11] at H
                      have c11b0 : decide ((ji9) < (y224.length : Int)) = true := decide_eq_true c11
                      clear c11
                      obtain ⟨y228, hy228⟩ : ∃ y_ : List (S35), y_ = (y224.set ((ji9) : Int).toNat (⟨(rd_T35 y224 (ji9)).f0, IntKind.u64.wrap (((rd_T35 y224 (ji9)).f1) + 1)⟩ : S35)) := ⟨_, rfl⟩
                      replace H : (spec_Runs.l0 k1 l0 y228 l0 (l0.length : Int) (wrap64 (x8_1 + 1))) = some r := by first | (rw [hy228]; with_reducible exact H) | (have H2_ := (Option.bind_some _ _).symm.trans H; rw [hy228]; with_reducible exact H2_) | (have H2_ := (Option.bind_some _ _).symm.trans H; with_reducible exact H2_) | with_reducible exact H | (rw [hy228]; exact H) | exact H
                      have Ny228 := Aside0.mk hy228
                      clear hy228
                      have H' := Aside0.mk H
                      clear H
                      have p223 : 0 ≤ (x8_1 : Int) := of_decide_eq_true (by first | (with_reducible assumption) | assumption)
                      have q223 : x8_1 < (l0.length : Int) := of_decide_eq_true (by first | (with_reducible assumption) | assumption)
                      obtain ⟨ad223, e223, hx223_0⟩ := Kd.at_bool HR0.out x8_1 p223 q223
                      (try rw [← Nbq5.out] at hx223_0)
                      cases e223
                      replace hx223_0 := (HB.out.cell (World.block_lt_of_cell? w _ hx223_0)).trans hx223_0
                      replace p223 := eq_true p223
                      replace q223 := eq_true q223
                      go_wp2_with (first | ((with_reducible refine gate_builtin (b := .append) (xs := #[.tmp 25, .tmp 31]) rfl ?_); at_builtin; refine Kd.R_append k35 (w0 := w) w.heap.size rfl (.tmp 25) (.tmp 31) 24 35 (.agg #[(.int .u64 0), (.int .u64 0)]) 16 rfl Try.underlying24 info35 rfl (by decide) (by omega) u3 x3_1 (⟨IntKind.u64.wrap (x8_1), IntKind.u64.wrap (x8_1)⟩ : S35) [.int .u64 (IntKind.u64.wrap (x8_1)), .int .u64 (IntKind.u64.wrap (x8_1))] (fun _ => True) (fun _ => False) rfl rfl ?aP (fun _ hk => hk.elim) ?aF ?aO ?aB ?aS ?aL ?_; (case aP => exact k35_mkM _ _ _ (⟨IntKind.u64.wrap (x8_1), IntKind.u64.wrap (x8_1)⟩ : S35)); (case aB => exact (by repeat (first | (with_reducible first | exact HB.out | apply below_alloc | apply pw_below_drewN | apply below_drew1) | exact HB.out))); (case aF => exact (fun _ _ => trivial)); (case aO => exact (by (with_reducible repeat (first | apply Kd.R_alloc | apply Kd.R_drewN | apply Kd.R_drew)); exact HO_3.out)); (case aS => exact (below_size (by repeat (first | (with_reducible first | exact HB.out | apply below_alloc | apply pw_below_drewN | apply below_drew1) | exact HB.out)))); (case aL => have := LMc8.out; omega); intro v225 w13 ho hb hg hat; rw [← Ny224.out] at ho; have n0_ := Aside0.mk (hb); have n1_ := Aside0.mk (ho); clear HB; clear HO_3; have HB := n0_; have HO226 := n1_; clear n0_ n1_; clear ho hb hg hat; obtain ⟨Ao14, co14, eo14⟩ := Kd.R_slice HO226.out; subst eo14; have p227 : 0 ≤ ((ji9) : Int) := of_decide_eq_true (by first | (with_reducible assumption) | assumption); have q227 : (ji9) < (y224.length : Int) := of_decide_eq_true (by first | (with_reducible assumption) | assumption); obtain ⟨ad227, e227, hx227_0, hx227_1⟩ := at_T35 (Kd.R_reads' HO226.out).2.2 (ji9) p227 q227; cases e227; replace p227 := eq_true p227; replace q227 := eq_true q227; have p12 : 0 ≤ ((ji9) : Int) := of_decide_eq_true (by first | (with_reducible assumption) | assumption); have q12 : ((ji9) : Int) < ((y224.length : Int) : Int) := of_decide_eq_true (by first | (with_reducible assumption) | assumption); obtain ⟨go12, co12, eo12, gb12, gl12, cl12, HG12⟩ := Kd.R_form HO226.out (by omega); (first | cases eo12 | (injection eo12 with ea_ en_ ec_; (first | subst ea_ | (injection ea_ with ea_; subst ea_)); subst ec_; clear en_)); have GB12 := Aside0.mk gb12; have GG12 := Aside0.mk HG12; clear gb12 gl12 HG12; (first | simp only [add_plain] at hx227_0 | skip); (first | simp only [add_plain] at hx227_1 | skip); obtain ⟨ce12, hcl12, hM12, hcc12, hfr12⟩ := Kd.R_elem HO226.out z35 ((ji9) : Int) p12 q12; obtain rfl := k35_openM hM12; have hx12_0 : w13.cell? ⟨go12, ((ji9) : Int).toNat * 2, none⟩ = some (.int .u64 ((rd_T35 y224 (ji9)).f0)) := hcc12 0 _ rfl; have hx12_1 : w13.cell? ⟨go12, ((ji9) : Int).toNat * 2 + 1, none⟩ = some (.int .u64 ((rd_T35 y224 (ji9)).f1)) := hcc12 1 _ rfl; have hf12_0 : w13.frozen? ⟨go12, ((ji9) : Int).toNat * 2, none⟩ = false := hfr12 0; have hf12_1 : w13.frozen? ⟨go12, ((ji9) : Int).toNat * 2 + 1, none⟩ = false := hfr12 1; clear hcl12 hcc12 hfr12 hM12; replace p12 := eq_true p12; replace q12 := eq_true q12; have HX15 := Aside0.mk (show Kd.R k35 35 w13 w.heap.size (fun _ => True) (.slice (some ⟨go12, 0, none⟩) y224.length co14) y224 from (by (with_reducible repeat (first | apply Kd.R_alloc | apply Kd.R_drewN | apply Kd.R_drew)); exact HO226.out)); obtain ⟨ce15, hcl15, hM15, hcc15, hfr15⟩ := Kd.R_elem HX15.out z35 ((ji9) : Int) (of_decide_eq_true (by first | (with_reducible assumption) | assumption)) (by have h_ : ((ji9) : Int) < ((y224.length : Int) : Int) := of_decide_eq_true (by first | (with_reducible assumption) | assumption); first | exact h_ | (have e_ := (Kd.R_reads' HO226.out).1; omega) | simpa using h_); obtain rfl := k35_openM hM15; have HP15 := Kd.R_seg HX15.out ((ji9) : Int) (of_decide_eq_true (by first | (with_reducible assumption) | assumption)) (by have h_ : ((ji9) : Int) < ((y224.length : Int) : Int) := of_decide_eq_true (by first | (with_reducible assumption) | assumption); first | exact h_ | (have e_ := (Kd.R_reads' HO226.out).1; omega) | simpa using h_) (seg := [.int .u64 (IntKind.u64.wrap (((rd_T35 y224 (ji9)).f1) + 1))]) (j := 1) hcl15 hcc15 (show 2 ≤ 2 from by decide) (x' := (⟨(rd_T35 y224 (ji9)).f0, IntKind.u64.wrap (((rd_T35 y224 (ji9)).f1) + 1)⟩ : S35)) (k35_mkM _ _ _ (⟨(rd_T35 y224 (ji9)).f0, IntKind.u64.wrap (((rd_T35 y224 (ji9)).f1) + 1)⟩ : S35) ) (fun _ hk => hk); have hx15_1 := hcc15 1 _ rfl; (try simp only [show (k35).sz = 2 from rfl, Nat.mul_one, Nat.add_zero] at hx15_1); have hf15_1 := hfr15 1; (try simp only [show (k35).sz = 2 from rfl, Nat.mul_one, Nat.add_zero] at hf15_1); clear hcl15 hcc15 hfr15 hM15) | ((with_reducible refine gate_store (t := 29) (p := 42) rfl ?_); refine store_event (t := 29) (p := 42) (v := ?vo_w16) (w1 := (w13.setCell ⟨go12, ((ji9) : Int).toNat * 2 + 1, none⟩ (.int .u64 (IntKind.u64.wrap (((rd_T35 y224 (ji9)).f1) + 1))))) ?hg ?ho ?hn ?hr ?_; (case ho => rfl); (case hg => rfl); (case hn => rfl); (case hr => first | (go_simp; done) | (go_simp; rfl)); intro w16 hw; have hg : w13.grownBy w16 (some go12) := (by rw [hw]; exact HP15.2); have hp_ : Kd.R k35 35 w16 w.heap.size (fun _ => True) (.slice (some ⟨go12, 0, none⟩) y224.length co14) y228 := (by rw [hw, Ny228.out]; exact HP15.1); clear HP15; have n0_ := Aside0.mk (hp_); have n1_ := Aside0.mk ((by rw [hw]; exact below_set (HB.out) GB12.out : Below w.heap.size w w16)); clear HO226; clear HB; have HO226 := n0_; have HB := n1_; clear n0_ n1_; clear hg hw hp_))
                      go_roundg k1
                      case measure => have := HK1.out; omega
                      case rel => exact ⟨(y228), (wrap64 (x8_1 + 1)), (by first | rfl | (simp; done) | (simp [*]; done)), H', ⟨by have := HK1.out; omega⟩, ⟨by (with_reducible repeat (first | apply Kd.R_alloc | apply Kd.R_drewN | apply Kd.R_drew)); exact HO226.out⟩, ⟨by repeat (first | (with_reducible first | exact HB.out | apply below_alloc | apply pw_below_drewN | apply below_drew1) | exact HB.out)⟩⟩
                    · rw [if_neg c11] at H
                      exact absurd H (by simp)
                  · rw [if_neg c10] at H
                    exact absurd H (by simp)
                · rw [if_neg c8] at H
                  exact absurd H (by simp)
              · rw [if_neg c7] at H
                have c7b0 : (x8_1 == 0) = false := beq_eq_false_iff_ne.mpr c7
                have c7b1 : (x8_1 != 0) = true := bne_iff_ne.mpr c7
                obtain ⟨ji17, hji17⟩ : ∃ j_ : Int, (wrap64 (x8_1 - 1)) = j_ := ⟨_, rfl⟩
                replace H : (if 0 ≤ (ji17) then (if (ji17) < (l0.length : Int) then (if (rdOf false l0 (ji17) = true) then (if 0 ≤ (wrap64 ((x3_1.length : Int) - 1)) then (if (wrap64 ((x3_1.length : Int) - 1)) < (x3_1.length : Int) then (spec_Runs.l0 k1 l0 (x3_1.set ((wrap64 ((x3_1.length : Int) - 1)) : Int).toNat (⟨(rd_T35 x3_1 (wrap64 ((x3_1.length : Int) - 1))).f0, IntKind.u64.wrap (((rd_T35 x3_1 (wrap64 ((x3_1.length : Int) - 1))).f1) + 1)⟩ : S35)) l0 (l0.length : Int) (wrap64 (x8_1 + 1))) else (none)) else (none)) else (if x3_1.length < 8796093022208 then ((some (x3_1 ++ [(⟨IntKind.u64.wrap (x8_1), IntKind.u64.wrap (x8_1)⟩ : S35)] : List (S35))).bind fun y232 => (if 0 ≤ (wrap64 ((y232.length : Int) - 1)) then (if (wrap64 ((y232.length : Int) - 1)) < (y232.length : Int) then (spec_Runs.l0 k1 l0 (y232.set ((wrap64 ((y232.length : Int) - 1)) : Int).toNat (⟨(rd_T35 y232 (wrap64 ((y232.length : Int) - 1))).f0, IntKind.u64.wrap (((rd_T35 y232 (wrap64 ((y232.length : Int) - 1))).f1) + 1)⟩ : S35)) l0 (l0.length : Int) (wrap64 (x8_1 + 1))) else (none)) else (none))) else (none))) else (none)) else (none)) = some r := by first | (rw [hji17] at H; exact H) | (simp only [hji17] at H ⊢; exact H)
                have hji17w : (IntKind.i64.wrap (x8_1 - 1)) = ji17 := (i64_w _).trans hji17
                by_cases c18 : 0 ≤ (ji17)
                · rw [if_pos c18] at H
                  have c18b0 : decide (0 ≤ (ji17)) = true := decide_eq_true c18
                  clear c18
                  by_cases c19 : (ji17) < (l0.length : Int)
                  · rw [if_pos c19] at H
                    have c19b0 : decide ((ji17) < (l0.length : Int)) = true := decide_eq_true c19
                    clear c19
                    obtain ⟨bq20, hbq20⟩ : ∃ b_ : Bool, b_ = (rdOf false l0 (ji17)) := ⟨_, rfl⟩
                    replace H : (if (bq20 = true) then (if 0 ≤ (wrap64 ((x3_1.length : Int) - 1)) then (if (wrap64 ((x3_1.length : Int) - 1)) < (x3_1.length : Int) then (spec_Runs.l0 k1 l0 (x3_1.set ((wrap64 ((x3_1.length : Int) - 1)) : Int).toNat (⟨(rd_T35 x3_1 (wrap64 ((x3_1.length : Int) - 1))).f0, IntKind.u64.wrap (((rd_T35 x3_1 (wrap64 ((x3_1.length : Int) - 1))).f1) + 1)⟩ : S35)) l0 (l0.length : Int) (wrap64 (x8_1 + 1))) else (none)) else (none)) else (if x3_1.length < 8796093022208 then ((some (x3_1 ++ [(⟨IntKind.u64.wrap (x8_1), IntKind.u64.wrap (x8_1)⟩ : S35)] : List (S35))).bind fun y232 => (if 0 ≤ (wrap64 ((y232.length : Int) - 1)) then (if (wrap64 ((y232.length : Int) - 1)) < (y232.length : Int) then (spec_Runs.l0 k1 l0 (y232.set ((wrap64 ((y232.length : Int) - 1)) : Int).toNat (⟨(rd_T35 y232 (wrap64 ((y232.length : Int) - 1))).f0, IntKind.u64.wrap (((rd_T35 y232 (wrap64 ((y232.length : Int) - 1))).f1) + 1)⟩ : S35)) l0 (l0.length : Int) (wrap64 (x8_1 + 1))) else (none)) else (none))) else (none))) = some r := by rw [← hbq20] at H; exact H
                    have Nbq20 := Aside0.mk hbq20
                    clear hbq20
                    by_cases c21 : (bq20 = true)
                    · subst c21
                      have H1 : (if 0 ≤ (wrap64 ((x3_1.length : Int) - 1)) then (if (wrap64 ((x3_1.length : Int) - 1)) < (x3_1.length : Int) then (spec_Runs.l0 k1 l0 (x3_1.set ((wrap64 ((x3_1.length : Int) - 1)) : Int).toNat (⟨(rd_T35 x3_1 (wrap64 ((x3_1.length : Int) - 1))).f0, IntKind.u64.wrap (((rd_T35 x3_1 (wrap64 ((x3_1.length : Int) - 1))).f1) + 1)⟩ : S35)) l0 (l0.length : Int) (wrap64 (x8_1 + 1))) else (none)) else (none)) = some r := by rw [if_pos rfl] at H; exact H
                      clear H
                      have H := H1
                      clear H1
                      obtain ⟨ji22, hji22⟩ : ∃ j_ : Int, (wrap64 ((x3_1.length : Int) - 1)) = j_ := ⟨_, rfl⟩
                      replace H : (if 0 ≤ (ji22) then (if (ji22) < (x3_1.length : Int) then (spec_Runs.l0 k1 l0 (x3_1.set ((ji22) : Int).toNat (⟨(rd_T35 x3_1 (ji22)).f0, IntKind.u64.wrap (((rd_T35 x3_1 (ji22)).f1) + 1)⟩ : S35)) l0 (l0.length : Int) (wrap64 (x8_1 + 1))) else (none)) else (none)) = some r := by first | (rw [hji22] at H; exact H) | (simp only [hji22] at H ⊢; exact H)
                      have hji22w : (IntKind.i64.wrap ((x3_1.length : Int) - 1)) = ji22 := (i64_w _).trans hji22
                      by_cases c23 : 0 ≤ (ji22)
                      · rw [if_pos c23] at H
                        have c23b0 : decide (0 ≤ (ji22)) = true := decide_eq_true c23
                        clear c23
                        by_cases c24 : (ji22) < (x3_1.length : Int)
                        · rw [if_pos c24] at H
                          have c24b0 : decide ((ji22) < (x3_1.length : Int)) = true := decide_eq_true c24
                          clear c24
                          obtain ⟨y231, hy231⟩ : ∃ y_ : List (S35), y_ = (x3_1.set ((ji22) : Int).toNat (⟨(rd_T35 x3_1 (ji22)).f0, IntKind.u64.wrap (((rd_T35 x3_1 (ji22)).f1) + 1)⟩ : S35)) := ⟨_, rfl⟩
                          replace H : (spec_Runs.l0 k1 l0 y231 l0 (l0.length : Int) (wrap64 (x8_1 + 1))) = some r := by first | (rw [hy231]; with_reducible exact H) | (have H2_ := (Option.bind_some _ _).symm.trans H; rw [hy231]; with_reducible exact H2_) | (have H2_ := (Option.bind_some _ _).symm.trans H; with_reducible exact H2_) | with_reducible exact H | (rw [hy231]; exact H) | exact H
                          have Ny231 := Aside0.mk hy231
                          clear hy231
                          have H' := Aside0.mk H
                          clear H
                          have p223 : 0 ≤ (x8_1 : Int) := of_decide_eq_true (by first | (with_reducible assumption) | assumption)
                          have q223 : x8_1 < (l0.length : Int) := of_decide_eq_true (by first | (with_reducible assumption) | assumption)
                          obtain ⟨ad223, e223, hx223_0⟩ := Kd.at_bool HR0.out x8_1 p223 q223
                          (try rw [← Nbq5.out] at hx223_0)
                          (try rw [← Nbq20.out] at hx223_0)
                          cases e223
                          replace hx223_0 := (HB.out.cell (World.block_lt_of_cell? w _ hx223_0)).trans hx223_0
                          replace p223 := eq_true p223
                          replace q223 := eq_true q223
                          have p229 : 0 ≤ ((ji17) : Int) := of_decide_eq_true (by first | (with_reducible assumption) | assumption)
                          have q229 : (ji17) < (l0.length : Int) := of_decide_eq_true (by first | (with_reducible assumption) | assumption)
                          obtain ⟨ad229, e229, hx229_0⟩ := Kd.at_bool HR0.out (ji17) p229 q229
                          (try rw [← Nbq5.out] at hx229_0)
                          (try rw [← Nbq20.out] at hx229_0)
                          obtain rfl : ad223 = ad229 := (by injection e229)
                          replace hx229_0 := (HB.out.cell (World.block_lt_of_cell? w _ hx229_0)).trans hx229_0
                          replace p229 := eq_true p229
                          replace q229 := eq_true q229
                          obtain ⟨Ao26, co26, eo26⟩ := Kd.R_slice HO_3.out
                          subst eo26
                          have p230 : 0 ≤ ((ji22) : Int) := of_decide_eq_true (by first | (with_reducible assumption) | assumption)
                          have q230 : (ji22) < (x3_1.length : Int) := of_decide_eq_true (by first | (with_reducible assumption) | assumption)
                          obtain ⟨ad230, e230, hx230_0, hx230_1⟩ := at_T35 (Kd.R_reads' HO_3.out).2.2 (ji22) p230 q230
                          cases e230
                          replace p230 := eq_true p230
                          replace q230 := eq_true q230
                          have p25 : 0 ≤ ((ji22) : Int) := of_decide_eq_true (by first | (with_reducible assumption) | assumption)
                          have q25 : ((ji22) : Int) < ((x3_1.length : Int) : Int) := of_decide_eq_true (by first | (with_reducible assumption) | assumption)
                          obtain ⟨go25, co25, eo25, gb25, gl25, cl25, HG25⟩ := Kd.R_form HO_3.out (by omega)
                          (first | cases eo25 | (injection eo25 with ea_ en_ ec_; (first | subst ea_ | (injection ea_ with ea_; subst ea_)); subst ec_; clear en_))
                          have GB25 := Aside0.mk gb25
                          have GG25 := Aside0.mk HG25
                          clear gb25 gl25 HG25
                          (first | simp only [add_plain] at hx230_0 | skip)
                          (first | simp only [add_plain] at hx230_1 | skip)
                          obtain ⟨ce25, hcl25, hM25, hcc25, hfr25⟩ := Kd.R_elem HO_3.out z35 ((ji22) : Int) p25 q25
                          obtain rfl := k35_openM hM25
                          have hx25_0 : wr.cell? ⟨go25, ((ji22) : Int).toNat * 2, none⟩ = some (.int .u64 ((rd_T35 x3_1 (ji22)).f0)) := hcc25 0 _ rfl
                          have hx25_1 : wr.cell? ⟨go25, ((ji22) : Int).toNat * 2 + 1, none⟩ = some (.int .u64 ((rd_T35 x3_1 (ji22)).f1)) := hcc25 1 _ rfl
                          have hf25_0 : wr.frozen? ⟨go25, ((ji22) : Int).toNat * 2, none⟩ = false := hfr25 0
                          have hf25_1 : wr.frozen? ⟨go25, ((ji22) : Int).toNat * 2 + 1, none⟩ = false := hfr25 1
                          clear hcl25 hcc25 hfr25 hM25
                          replace p25 := eq_true p25
                          replace q25 := eq_true q25
                          have HX27 := Aside0.mk (show Kd.R k35 35 wr w.heap.size (fun _ => True) (.slice (some ⟨go25, 0, none⟩) x3_1.length co26) x3_1 from (by (with_reducible repeat (first | apply Kd.R_alloc | apply Kd.R_drewN | apply Kd.R_drew)); exact HO_3.out))
                          obtain ⟨ce27, hcl27, hM27, hcc27, hfr27⟩ := Kd.R_elem HX27.out z35 ((ji22) : Int) (of_decide_eq_true (by first | (with_reducible assumption) | assumption)) (by have h_ : ((ji22) : Int) < ((x3_1.length : Int) : Int) := of_decide_eq_true (by first | (with_reducible assumption) | assumption); first | exact h_ | (have e_ := (Kd.R_reads' HO_3.out).1; omega) | simpa using h_)
                          obtain rfl := k35_openM hM27
                          have HP27 := Kd.R_seg HX27.out ((ji22) : Int) (of_decide_eq_true (by first | (with_reducible assumption) | assumption)) (by have h_ : ((ji22) : Int) < ((x3_1.length : Int) : Int) := of_decide_eq_true (by first | (with_reducible assumption) | assumption); first | exact h_ | (have e_ := (Kd.R_reads' HO_3.out).1; omega) | simpa using h_) (seg := [.int .u64 (IntKind.u64.wrap (((rd_T35 x3_1 (ji22)).f1) + 1))]) (j := 1) hcl27 hcc27 (show 2 ≤ 2 from by decide) (x' := (⟨(rd_T35 x3_1 (ji22)).f0, IntKind.u64.wrap (((rd_T35 x3_1 (ji22)).f1) + 1)⟩ : S35)) (k35_mkM _ _ _ (⟨(rd_T35 x3_1 (ji22)).f0, IntKind.u64.wrap (((rd_T35 x3_1 (ji22)).f1) + 1)⟩ : S35) ) (fun _ hk => hk)
                          have hx27_1 := hcc27 1 _ rfl
                          (try simp only [show (k35).sz = 2 from rfl, Nat.mul_one, Nat.add_zero] at hx27_1)
                          have hf27_1 := hfr27 1
                          (try simp only [show (k35).sz = 2 from rfl, Nat.mul_one, Nat.add_zero] at hf27_1)
                          clear hcl27 hcc27 hfr27 hM27
                          go_wp2_with (first | ((with_reducible refine gate_store (t := 29) (p := 42) rfl ?_); refine store_event (t := 29) (p := 42) (v := ?vo_w28) (w1 := (wr.setCell ⟨go25, ((ji22) : Int).toNat * 2 + 1, none⟩ (.int .u64 (IntKind.u64.wrap (((rd_T35 x3_1 (ji22)).f1) + 1))))) ?hg ?ho ?hn ?hr ?_; (case ho => rfl); (case hg => rfl); (case hn => rfl); (case hr => first | (go_simp; done) | (go_simp; rfl)); intro w28 hw; have hg : wr.grownBy w28 (some go25) := (by rw [hw]; exact HP27.2); have hp_ : Kd.R k35 35 w28 w.heap.size (fun _ => True) (.slice (some ⟨go25, 0, none⟩) x3_1.length co26) y231 := (by rw [hw, Ny231.out]; exact HP27.1); clear HP27; have n0_ := Aside0.mk (hp_); have n1_ := Aside0.mk ((by rw [hw]; exact below_set (HB.out) GB25.out : Below w.heap.size w w28)); clear HO_3; clear HB; have HO_3 := n0_; have HB := n1_; clear n0_ n1_; clear hg hw hp_))
                          go_roundg k1
                          case measure => have := HK1.out; omega
                          case rel => exact ⟨(y231), (wrap64 (x8_1 + 1)), (by first | rfl | (simp; done) | (simp [*]; done)), H', ⟨by have := HK1.out; omega⟩, ⟨by (with_reducible repeat (first | apply Kd.R_alloc | apply Kd.R_drewN | apply Kd.R_drew)); exact HO_3.out⟩, ⟨by repeat (first | (with_reducible first | exact HB.out | apply below_alloc | apply pw_below_drewN | apply below_drew1) | exact HB.out)⟩⟩
                        · rw [if_neg c24] at H
                          exact absurd H (by simp)
                      · rw [if_neg c23] at H
                        exact absurd H (by simp)
                    · replace c21 := Bool.eq_false_iff.mpr c21
                      subst c21
                      have H1 : (if x3_1.length < 8796093022208 then ((some (x3_1 ++ [(⟨IntKind.u64.wrap (x8_1), IntKind.u64.wrap (x8_1)⟩ : S35)] : List (S35))).bind fun y232 => (if 0 ≤ (wrap64 ((y232.length : Int) - 1)) then (if (wrap64 ((y232.length : Int) - 1)) < (y232.length : Int) then (spec_Runs.l0 k1 l0 (y232.set ((wrap64 ((y232.length : Int) - 1)) : Int).toNat (⟨(rd_T35 y232 (wrap64 ((y232.length : Int) - 1))).f0, IntKind.u64.wrap (((rd_T35 y232 (wrap64 ((y232.length : Int) - 1))).f1) + 1)⟩ : S35)) l0 (l0.length : Int) (wrap64 (x8_1 + 1))) else (none)) else (none))) else (none)) = some r := by rw [if_neg (show ¬ (false = true) by decide)] at H; exact H
                      clear H
                      have H := H1
                      clear H1
                      by_cases c29 : x3_1.length < 8796093022208
                      · rw [if_pos c29] at H
                        have LMc29 := Aside0.mk c29
                        clear c29
                        obtain ⟨y232, hy232⟩ : ∃ y_ : List (S35), y_ = (x3_1 ++ [(⟨IntKind.u64.wrap (x8_1), IntKind.u64.wrap (x8_1)⟩ : S35)]) := ⟨_, rfl⟩
                        replace H : (if 0 ≤ (wrap64 ((y232.length : Int) - 1)) then (if (wrap64 ((y232.length : Int) - 1)) < (y232.length : Int) then (spec_Runs.l0 k1 l0 (y232.set ((wrap64 ((y232.length : Int) - 1)) : Int).toNat (⟨(rd_T35 y232 (wrap64 ((y232.length : Int) - 1))).f0, IntKind.u64.wrap (((rd_T35 y232 (wrap64 ((y232.length : Int) - 1))).f1) + 1)⟩ : S35)) l0 (l0.length : Int) (wrap64 (x8_1 + 1))) else (none)) else (none)) = some r := by first | (rw [hy232]; with_reducible exact H) | (have H2_ := (Option.bind_some _ _).symm.trans H; rw [hy232]; with_reducible exact H2_) | (have H2_ := (Option.bind_some _ _).symm.trans H; with_reducible exact H2_) | with_reducible exact H | (rw [hy232]; exact H) | exact H
                        have Ny232 := Aside0.mk hy232
                        clear hy232
                        obtain ⟨ji30, hji30⟩ : ∃ j_ : Int, (wrap64 ((y232.length : Int) - 1)) = j_ := ⟨_, rfl⟩
                        replace H : (if 0 ≤ (ji30) then (if (ji30) < (y232.length : Int) then (spec_Runs.l0 k1 l0 (y232.set ((ji30) : Int).toNat (⟨(rd_T35 y232 (ji30)).f0, IntKind.u64.wrap (((rd_T35 y232 (ji30)).f1) + 1)⟩ : S35)) l0 (l0.length : Int) (wrap64 (x8_1 + 1))) else (none)) else (none)) = some r := by first | (rw [hji30] at H; exact H) | (simp only [hji30] at H ⊢; exact H)
                        have hji30w : (IntKind.i64.wrap ((y232.length : Int) - 1)) = ji30 := (i64_w _).trans hji30
                        by_cases c31 : 0 ≤ (ji30)
                        · rw [if_pos c31] at H
                          have c31b0 : decide (0 ≤ (ji30)) = true := decide_eq_true c31
                          clear c31
                          by_cases c32 : (ji30) < (y232.length : Int)
                          · rw [if_pos c32] at H
                            have c32b0 : decide ((ji30) < (y232.length : Int)) = true := decide_eq_true c32
                            clear c32
                            obtain ⟨y236, hy236⟩ : ∃ y_ : List (S35), y_ = (y232.set ((ji30) : Int).toNat (⟨(rd_T35 y232 (ji30)).f0, IntKind.u64.wrap (((rd_T35 y232 (ji30)).f1) + 1)⟩ : S35)) := ⟨_, rfl⟩
                            replace H : (spec_Runs.l0 k1 l0 y236 l0 (l0.length : Int) (wrap64 (x8_1 + 1))) = some r := by first | (rw [hy236]; with_reducible exact H) | (have H2_ := (Option.bind_some _ _).symm.trans H; rw [hy236]; with_reducible exact H2_) | (have H2_ := (Option.bind_some _ _).symm.trans H; with_reducible exact H2_) | with_reducible exact H | (rw [hy236]; exact H) | exact H
                            have Ny236 := Aside0.mk hy236
                            clear hy236
                            have H' := Aside0.mk H
                            clear H
                            have p223 : 0 ≤ (x8_1 : Int) := of_decide_eq_true (by first | (with_reducible assumption) | assumption)
                            have q223 : x8_1 < (l0.length : Int) := of_decide_eq_true (by first | (with_reducible assumption) | assumption)
                            obtain ⟨ad223, e223, hx223_0⟩ := Kd.at_bool HR0.out x8_1 p223 q223
                            (try rw [← Nbq5.out] at hx223_0)
                            (try rw [← Nbq20.out] at hx223_0)
                            cases e223
                            replace hx223_0 := (HB.out.cell (World.block_lt_of_cell? w _ hx223_0)).trans hx223_0
                            replace p223 := eq_true p223
                            replace q223 := eq_true q223
                            have p229 : 0 ≤ ((ji17) : Int) := of_decide_eq_true (by first | (with_reducible assumption) | assumption)
                            have q229 : (ji17) < (l0.length : Int) := of_decide_eq_true (by first | (with_reducible assumption) | assumption)
                            obtain ⟨ad229, e229, hx229_0⟩ := Kd.at_bool HR0.out (ji17) p229 q229
                            (try rw [← Nbq5.out] at hx229_0)
                            (try rw [← Nbq20.out] at hx229_0)
                            obtain rfl : ad223 = ad229 := (by injection e229)
                            replace hx229_0 := (HB.out.cell (World.block_lt_of_cell? w _ hx229_0)).trans hx229_0
                            replace p229 := eq_true p229
                            replace q229 := eq_true q229
                            go_wp2_with (first | ((with_reducible refine gate_builtin (b := .append) (xs := #[.tmp 25, .tmp 31]) rfl ?_); at_builtin; refine Kd.R_append k35 (w0 := w) w.heap.size rfl (.tmp 25) (.tmp 31) 24 35 (.agg #[(.int .u64 0), (.int .u64 0)]) 16 rfl Try.underlying24 info35 rfl (by decide) (by omega) u3 x3_1 (⟨IntKind.u64.wrap (x8_1), IntKind.u64.wrap (x8_1)⟩ : S35) [.int .u64 (IntKind.u64.wrap (x8_1)), .int .u64 (IntKind.u64.wrap (x8_1))] (fun _ => True) (fun _ => False) rfl rfl ?aP (fun _ hk => hk.elim) ?aF ?aO ?aB ?aS ?aL ?_; (case aP => exact k35_mkM _ _ _ (⟨IntKind.u64.wrap (x8_1), IntKind.u64.wrap (x8_1)⟩ : S35)); (case aB => exact (by repeat (first | (with_reducible first | exact HB.out | apply below_alloc | apply pw_below_drewN | apply below_drew1) | exact HB.out))); (case aF => exact (fun _ _ => trivial)); (case aO => exact (by (with_reducible repeat (first | apply Kd.R_alloc | apply Kd.R_drewN | apply Kd.R_drew)); exact HO_3.out)); (case aS => exact (below_size (by repeat (first | (with_reducible first | exact HB.out | apply below_alloc | apply pw_below_drewN | apply below_drew1) | exact HB.out)))); (case aL => have := LMc29.out; omega); intro v233 w34 ho hb hg hat; rw [← Ny232.out] at ho; have n0_ := Aside0.mk (hb); have n1_ := Aside0.mk (ho); clear HB; clear HO_3; have HB := n0_; have HO234 := n1_; clear n0_ n1_; clear ho hb hg hat; obtain ⟨Ao35, co35, eo35⟩ := Kd.R_slice HO234.out; subst eo35; have p235 : 0 ≤ ((ji30) : Int) := of_decide_eq_true (by first | (with_reducible assumption) | assumption); have q235 : (ji30) < (y232.length : Int) := of_decide_eq_true (by first | (with_reducible assumption) | assumption); obtain ⟨ad235, e235, hx235_0, hx235_1⟩ := at_T35 (Kd.R_reads' HO234.out).2.2 (ji30) p235 q235; cases e235; replace p235 := eq_true p235; replace q235 := eq_true q235; have p33 : 0 ≤ ((ji30) : Int) := of_decide_eq_true (by first | (with_reducible assumption) | assumption); have q33 : ((ji30) : Int) < ((y232.length : Int) : Int) := of_decide_eq_true (by first | (with_reducible assumption) | assumption); obtain ⟨go33, co33, eo33, gb33, gl33, cl33, HG33⟩ := Kd.R_form HO234.out (by omega); (first | cases eo33 | (injection eo33 with ea_ en_ ec_; (first | subst ea_ | (injection ea_ with ea_; subst ea_)); subst ec_; clear en_)); have GB33 := Aside0.mk gb33; have GG33 := Aside0.mk HG33; clear gb33 gl33 HG33; (first | simp only [add_plain] at hx235_0 | skip); (first | simp only [add_plain] at hx235_1 | skip); obtain ⟨ce33, hcl33, hM33, hcc33, hfr33⟩ := Kd.R_elem HO234.out z35 ((ji30) : Int) p33 q33; obtain rfl := k35_openM hM33; have hx33_0 : w34.cell? ⟨go33, ((ji30) : Int).toNat * 2, none⟩ = some (.int .u64 ((rd_T35 y232 (ji30)).f0)) := hcc33 0 _ rfl; have hx33_1 : w34.cell? ⟨go33, ((ji30) : Int).toNat * 2 + 1, none⟩ = some (.int .u64 ((rd_T35 y232 (ji30)).f1)) := hcc33 1 _ rfl; have hf33_0 : w34.frozen? ⟨go33, ((ji30) : Int).toNat * 2, none⟩ = false := hfr33 0; have hf33_1 : w34.frozen? ⟨go33, ((ji30) : Int).toNat * 2 + 1, none⟩ = false := hfr33 1; clear hcl33 hcc33 hfr33 hM33; replace p33 := eq_true p33; replace q33 := eq_true q33; have HX36 := Aside0.mk (show Kd.R k35 35 w34 w.heap.size (fun _ => True) (.slice (some ⟨go33, 0, none⟩) y232.length co35) y232 from (by (with_reducible repeat (first | apply Kd.R_alloc | apply Kd.R_drewN | apply Kd.R_drew)); exact HO234.out)); obtain ⟨ce36, hcl36, hM36, hcc36, hfr36⟩ := Kd.R_elem HX36.out z35 ((ji30) : Int) (of_decide_eq_true (by first | (with_reducible assumption) | assumption)) (by have h_ : ((ji30) : Int) < ((y232.length : Int) : Int) := of_decide_eq_true (by first | (with_reducible assumption) | assumption); first | exact h_ | (have e_ := (Kd.R_reads' HO234.out).1; omega) | simpa using h_); obtain rfl := k35_openM hM36; have HP36 := Kd.R_seg HX36.out ((ji30) : Int) (of_decide_eq_true (by first | (with_reducible assumption) | assumption)) (by have h_ : ((ji30) : Int) < ((y232.length : Int) : Int) := of_decide_eq_true (by first | (with_reducible assumption) | assumption); first | exact h_ | (have e_ := (Kd.R_reads' HO234.out).1; omega) | simpa using h_) (seg := [.int .u64 (IntKind.u64.wrap (((rd_T35 y232 (ji30)).f1) + 1))]) (j := 1) hcl36 hcc36 (show 2 ≤ 2 from by decide) (x' := (⟨(rd_T35 y232 (ji30)).f0, IntKind.u64.wrap (((rd_T35 y232 (ji30)).f1) + 1)⟩ : S35)) (k35_mkM _ _ _ (⟨(rd_T35 y232 (ji30)).f0, IntKind.u64.wrap (((rd_T35 y232 (ji30)).f1) + 1)⟩ : S35) ) (fun _ hk => hk); have hx36_1 := hcc36 1 _ rfl; (try simp only [show (k35).sz = 2 from rfl, Nat.mul_one, Nat.add_zero] at hx36_1); have hf36_1 := hfr36 1; (try simp only [show (k35).sz = 2 from rfl, Nat.mul_one, Nat.add_zero] at hf36_1); clear hcl36 hcc36 hfr36 hM36) | ((with_reducible refine gate_store (t := 29) (p := 42) rfl ?_); refine store_event (t := 29) (p := 42) (v := ?vo_w37) (w1 := (w34.setCell ⟨go33, ((ji30) : Int).toNat * 2 + 1, none⟩ (.int .u64 (IntKind.u64.wrap (((rd_T35 y232 (ji30)).f1) + 1))))) ?hg ?ho ?hn ?hr ?_; (case ho => rfl); (case hg => rfl); (case hn => rfl); (case hr => first | (go_simp; done) | (go_simp; rfl)); intro w37 hw; have hg : w34.grownBy w37 (some go33) := (by rw [hw]; exact HP36.2); have hp_ : Kd.R k35 35 w37 w.heap.size (fun _ => True) (.slice (some ⟨go33, 0, none⟩) y232.length co35) y236 := (by rw [hw, Ny236.out]; exact HP36.1); clear HP36; have n0_ := Aside0.mk (hp_); have n1_ := Aside0.mk ((by rw [hw]; exact below_set (HB.out) GB33.out : Below w.heap.size w w37)); clear HO234; clear HB; have HO234 := n0_; have HB := n1_; clear n0_ n1_; clear hg hw hp_))
                            go_roundg k1
                            case measure => have := HK1.out; omega
                            case rel => exact ⟨(y236), (wrap64 (x8_1 + 1)), (by first | rfl | (simp; done) | (simp [*]; done)), H', ⟨by have := HK1.out; omega⟩, ⟨by (with_reducible repeat (first | apply Kd.R_alloc | apply Kd.R_drewN | apply Kd.R_drew)); exact HO234.out⟩, ⟨by repeat (first | (with_reducible first | exact HB.out | apply below_alloc | apply pw_below_drewN | apply below_drew1) | exact HB.out)⟩⟩
                          · rw [if_neg c32] at H
                            exact absurd H (by simp)
                        · rw [if_neg c31] at H
                          exact absurd H (by simp)
                      · rw [if_neg c29] at H
                        exact absurd H (by simp)
                  · rw [if_neg c19] at H
                    exact absurd H (by simp)
                · rw [if_neg c18] at H
                  exact absurd H (by simp)
            · replace c6 := Bool.eq_false_iff.mpr c6
              subst c6
              have H1 : (spec_Runs.l0 k1 l0 x3_1 l0 (l0.length : Int) (wrap64 (x8_1 + 1))) = some r := by rw [if_neg (show ¬ (false = true) by decide)] at H; exact H
              clear H
              have H := H1
              clear H1
              have H' := Aside0.mk H
              clear H
              have p223 : 0 ≤ (x8_1 : Int) := of_decide_eq_true (by first | (with_reducible assumption) | assumption)
              have q223 : x8_1 < (l0.length : Int) := of_decide_eq_true (by first | (with_reducible assumption) | assumption)
              obtain ⟨ad223, e223, hx223_0⟩ := Kd.at_bool HR0.out x8_1 p223 q223
              (try rw [← Nbq5.out] at hx223_0)
              cases e223
              replace hx223_0 := (HB.out.cell (World.block_lt_of_cell? w _ hx223_0)).trans hx223_0
              replace p223 := eq_true p223
              replace q223 := eq_true q223
              go_wp2
              go_roundg k1
              case measure => have := HK1.out; omega
              case rel => exact ⟨(x3_1), (wrap64 (x8_1 + 1)), (by first | rfl | (simp; done) | (simp [*]; done)), H', ⟨by have := HK1.out; omega⟩, ⟨by (with_reducible repeat (first | apply Kd.R_alloc | apply Kd.R_drewN | apply Kd.R_drew)); exact HO_3.out⟩, ⟨by repeat (first | (with_reducible first | exact HB.out | apply below_alloc | apply pw_below_drewN | apply below_drew1) | exact HB.out)⟩⟩
          · rw [if_neg c4] at H
            exact absurd H (by simp)
        · rw [if_neg c3] at H
          exact absurd H (by simp)
      · rw [if_neg c2] at H
        have c2b0 : decide (x8_1 < (l0.length : Int)) = false := decide_eq_false c2
        clear c2
        obtain rfl := Option.some.inj H
        go_wp2
        go_ret
        exact ⟨_, by first | rfl | (simp [errW_none, errW_some] <;> rfl) | (simp [*, errW_none, errW_some] <;> rfl), by (with_reducible repeat (first | apply Kd.R_alloc | apply Kd.R_drewN | apply Kd.R_drew)); exact HO_3.out, by repeat (first | (with_reducible first | exact HB.out | apply below_alloc | apply pw_below_drewN | apply below_drew1) | exact HB.out)⟩

end Go.Proofs.Yticjdbdhnfmidaa.K
