/- The walks of spec.Put, spec.Last, spec.Count and spec.Next. (Lines that the kit's print has written for this claim, grouped by assemble.py; hand contracts take the place of what it does not print.) -/
import Derived.Test.YticjdbdhnfmidaaK0
namespace Go.Proofs.Yticjdbdhnfmidaa.K
open Go.RowKit Go.Proofs.YticjdbdhnfmidaaW.PrintWords Go.Proofs.YticjdbdhnfmidaaW.PrintLast Go.Proofs.YticjdbdhnfmidaaW.PrintMore
attribute [local go_sem] max2_int min2_int max_two min_two max_three min_three max_four min_four   -- for this text's walks alone
set_option linter.unusedVariables false
set_option linter.unusedSimpArgs false

/-! ### spec_Put: function 6 -/
def spec_Put.l0 : Nat → List Bool → Int → Int → Bool → Int → Option (List Bool)
  | 0, _, _, _, _, _ => none
  | k + 1, x0, x1, x2, x3, x8 => if x8 < (wrap64 (x1 + x2)) then (if 0 ≤ x8 then (if x8 < (x0.length : Int) then (spec_Put.l0 k (x0.set (x8 : Int).toNat x3) x1 x2 x3 (wrap64 (x8 + 1))) else (none)) else (none)) else (some x0)
def spec_Put.f (k : Nat) (l0 : List Bool) (a1 : Int) (a2 : Int) (a3 : Bool) : Option (List Bool) := spec_Put.l0 k l0 a1 a2 a3 a1
theorem spec_Put.mono_l : ∀ k, (∀ y0 y1 y2 y3 y4, LeO (spec_Put.l0 k y0 y1 y2 y3 y4) (spec_Put.l0 (k + 1) y0 y1 y2 y3 y4))
  | 0 => fun _ _ _ _ _ r h => by simp [spec_Put.l0] at h
  | k + 1 => by
    have ih0 := spec_Put.mono_l k
    · intro y0 y1 y2 y3 y4
      unfold spec_Put.l0
      repeat' first
      | (with_reducible exact ih0 _ _ _ _ _)
      | (with_reducible exact LeO.refl _)
      | (with_reducible exact LeO.none _)
      | (with_reducible refine LeO.ite ?_ ?_)
      | (with_reducible refine LeO.bind ?_ (fun _ => ?_))
      | exact ih0 _ _ _ _ _
      | exact LeO.none _
      | refine LeO.ite ?_ ?_
      | refine LeO.bind ?_ (fun _ => ?_)
theorem spec_Put.mono : ∀ a0 a1 a2 a3 k, LeO (spec_Put.f k a0 a1 a2 a3) (spec_Put.f (k + 1) a0 a1 a2 a3) := by
  intro a0 a1 a2 a3 k
  have ih0 := spec_Put.mono_l k
  unfold spec_Put.f
  repeat' first
      | (with_reducible exact ih0 _ _ _ _ _)
      | (with_reducible exact LeO.refl _)
      | (with_reducible exact LeO.none _)
      | (with_reducible refine LeO.ite ?_ ?_)
      | (with_reducible refine LeO.bind ?_ (fun _ => ?_))
      | exact ih0 _ _ _ _ _
      | exact LeO.none _
      | refine LeO.ite ?_ ?_
      | refine LeO.bind ?_ (fun _ => ?_)
set_option maxHeartbeats 8000000 in
set_option maxRecDepth 100000 in
theorem spec_Put.calls (k : Nat) (P0_ : Nat → Prop) (u9000_ : Value) (l0 : List Bool) (a1 : Int) (a2 : Int) (a3 : Bool) (r : List Bool) (w0 w : World) (hB : Below w0.heap.size w0 w) (ho0 : Kd.R Kd.bool 4 w w0.heap.size P0_ u9000_ l0) (h : spec_Put.f k l0 a1 a2 a3 = some r) :
    Calls Try.prog 6 #[u9000_, .int .i64 a1, .int .i64 a2, .bool a3] w fun e w' => e = .returned (.tuple #[]) ∧ Kd.R Kd.bool 4 w' w0.heap.size (fun k_ => (P0_ k_ ∨ w.heap.size ≤ k_)) u9000_ r ∧ Below w0.heap.size w0 w' ∧ Kept w w' (fun k_ => P0_ k_) := by
  have HO0 := Aside0.mk (show Kd.R Kd.bool 4 w w0.heap.size (fun k_ => (P0_ k_ ∨ w.heap.size ≤ k_)) u9000_ l0 from Kd.R_mono ho0 (fun k_ hk => (.inl hk)))
  have HK := Aside0.mk (Kept.refl w (fun k_ => P0_ k_))
  have HW0 := Aside0.mk hB.size
  have HB := Aside0.mk hB
  clear hB
  have H : (spec_Put.l0 k l0 a1 a2 a3 a1) = some r := h
  clear h
  have H' := Aside0.mk H
  clear H
  go_enter Try.func6, Try.ntmps6
  go_wp2
  go_loopg [8] k (fun kq v8 w' => ∃ (x0_1 : List Bool) (x8_1 : Int), v8 = .int .i64 x8_1 ∧ Aside0 (spec_Put.l0 kq x0_1 a1 a2 a3 x8_1 = some r) ∧ Aside0 (kq ≤ k) ∧ Aside0 (Kd.R Kd.bool 4 w' w0.heap.size (fun k_ => (P0_ k_ ∨ w.heap.size ≤ k_)) u9000_ x0_1) ∧ Aside0 (Kept w w' (fun k_ => P0_ k_)) ∧ Aside0 (Below w0.heap.size w0 w'))
  case atStart => exact ⟨(l0), (a1), (by first | rfl | (simp; done) | (simp [*]; done)), H', ⟨Nat.le_refl _⟩, ⟨by (with_reducible repeat (first | apply Kd.R_alloc | apply Kd.R_drewN | apply Kd.R_drew)); exact HO0.out⟩, ⟨by repeat (first | (with_reducible first | exact HK.out | apply Kept.alloc | apply Kept.drewN | apply Kept.drew) | exact HK.out)⟩, ⟨by repeat (first | (with_reducible first | exact HB.out | apply below_alloc | apply pw_below_drewN | apply below_drew1) | exact HB.out)⟩⟩
  case round =>
    clear H'
    try clear p2
    obtain ⟨x0_1, x8_1, rfl, HA, HK1, HO_0, HK, HB⟩ := hrel
    cases gk with
    | zero => exact absurd HA.out (by simp [spec_Put.l0])
    | succ k1 =>
      have H := HA.out
      clear HA
      simp only [spec_Put.l0] at H
      by_cases c5 : x8_1 < (wrap64 (a1 + a2))
      · rw [if_pos c5] at H
        have c5b0 : decide (x8_1 < (wrap64 (a1 + a2))) = true := decide_eq_true c5
        clear c5
        by_cases c6 : 0 ≤ x8_1
        · rw [if_pos c6] at H
          have c6b0 : decide (0 ≤ x8_1) = true := decide_eq_true c6
          clear c6
          by_cases c7 : x8_1 < (x0_1.length : Int)
          · rw [if_pos c7] at H
            have c7b0 : decide (x8_1 < (x0_1.length : Int)) = true := decide_eq_true c7
            clear c7
            obtain ⟨y111, hy111⟩ : ∃ y_ : List Bool, y_ = (x0_1.set (x8_1 : Int).toNat a3) := ⟨_, rfl⟩
            replace H : (spec_Put.l0 k1 y111 a1 a2 a3 (wrap64 (x8_1 + 1))) = some r := by first | (rw [hy111]; with_reducible exact H) | (have H2_ := (Option.bind_some _ _).symm.trans H; rw [hy111]; with_reducible exact H2_) | (have H2_ := (Option.bind_some _ _).symm.trans H; with_reducible exact H2_) | with_reducible exact H | (rw [hy111]; exact H) | exact H
            have Ny111 := Aside0.mk hy111
            clear hy111
            have H' := Aside0.mk H
            clear H
            have p8 : 0 ≤ (x8_1 : Int) := of_decide_eq_true (by first | (with_reducible assumption) | assumption)
            have q8 : (x8_1 : Int) < ((x0_1.length : Int) : Int) := of_decide_eq_true (by first | (with_reducible assumption) | assumption)
            obtain ⟨go8, co8, eo8, gb8, gl8, cl8, HG8⟩ := Kd.R_form HO_0.out (by omega)
            (first | cases eo8 | (injection eo8 with ea_ en_ ec_; (first | subst ea_ | (injection ea_ with ea_; subst ea_)); subst ec_; clear en_))
            have GB8 := Aside0.mk gb8
            have GG8 := Aside0.mk HG8
            clear gb8 gl8 HG8
            have HMgo8 := Aside0.mk (show (P0_ go8 ∨ w.heap.size ≤ go8) from (HO_0.out.1 _ rfl))
            obtain ⟨hx8_0, hf8_0⟩ := Kd.R_celln false HO_0.out (x8_1 : Int) p8 q8
            replace p8 := eq_true p8
            replace q8 := eq_true q8
            have HP9 := Kd.R_putg HO_0.out (x8_1 : Int) a3
            go_wp2_with (first | ((with_reducible refine gate_store (t := 4) (p := 20) rfl ?_); refine store_event (t := 4) (p := 20) (v := ?vo_w10) (w1 := (wr.setCell ⟨go8, (x8_1 : Int).toNat, none⟩ (.bool a3))) ?hg ?ho ?hn ?hr ?_; (case ho => rfl); (case hg => rfl); (case hn => rfl); (case hr => first | (go_simp; done) | (go_simp; rfl)); intro w10 hw; have hg : wr.grownBy w10 (some go8) := (by rw [hw]; exact HP9.2); have hp_ : Kd.R Kd.bool 4 w10 w0.heap.size (fun k_ => (P0_ k_ ∨ w.heap.size ≤ k_)) (.slice (some ⟨go8, 0, none⟩) x0_1.length co8) y111 := (by rw [hw, Ny111.out]; exact HP9.1); clear HP9; have n0_ := Aside0.mk (hp_); have n1_ := Aside0.mk ((by rw [hw]; exact below_set (HB.out) GB8.out : Below w0.heap.size w0 w10)); have n2_ := Aside0.mk (Kept.of_grown (S := (fun k_ => P0_ k_)) hg (by repeat (first | (with_reducible first | exact HK.out | apply Kept.alloc | apply Kept.drewN | apply Kept.drew) | exact HK.out)) (fun k_ e_ => (HO_0.out.1 k_ e_))); clear HO_0; clear HB; clear HK; have HO_0 := n0_; have HB := n1_; have HK := n2_; clear n0_ n1_ n2_; clear hg hw hp_))
            go_roundg k1
            case measure => have := HK1.out; omega
            case rel => exact ⟨(y111), (wrap64 (x8_1 + 1)), (by first | rfl | (simp; done) | (simp [*]; done)), H', ⟨by have := HK1.out; omega⟩, ⟨by (with_reducible repeat (first | apply Kd.R_alloc | apply Kd.R_drewN | apply Kd.R_drew)); exact HO_0.out⟩, ⟨by repeat (first | (with_reducible first | exact HK.out | apply Kept.alloc | apply Kept.drewN | apply Kept.drew) | exact HK.out)⟩, ⟨by repeat (first | (with_reducible first | exact HB.out | apply below_alloc | apply pw_below_drewN | apply below_drew1) | exact HB.out)⟩⟩
          · rw [if_neg c7] at H
            exact absurd H (by simp)
        · rw [if_neg c6] at H
          exact absurd H (by simp)
      · rw [if_neg c5] at H
        have c5b0 : decide (x8_1 < (wrap64 (a1 + a2))) = false := decide_eq_false c5
        clear c5
        obtain rfl := Option.some.inj H
        go_wp2
        first | go_end0 | ((try simp only [Exit.inBlock, Exit.then]); refine bodyPost_ret (results_none rfl _ _ _) rfl ?_)
        exact ⟨by first | rfl | (simp [errW_none, errW_some] <;> rfl) | (simp [*, errW_none, errW_some] <;> rfl), by (with_reducible repeat (first | apply Kd.R_alloc | apply Kd.R_drewN | apply Kd.R_drew)); exact HO_0.out, by repeat (first | (with_reducible first | exact HB.out | apply below_alloc | apply pw_below_drewN | apply below_drew1) | exact HB.out), by repeat (first | (with_reducible first | exact HK.out | apply Kept.alloc | apply Kept.drewN | apply Kept.drew) | exact HK.out)⟩

/-! ### spec_Last: function 10 -/
mutual
def spec_Last.l0 : Nat → List Bool → Int → Int → Option (Int × Int)
  | 0, _, _, _ => none
  | k + 1, x0, x1, x6 => if 0 ≤ (wrap64 (x6 - 1)) then (if (wrap64 (x6 - 1)) < (x0.length : Int) then (if (rdOf false x0 (wrap64 (x6 - 1)) = true) then (spec_Last.l1 k x0 x1 x6 x6) else (spec_Last.l0 k x0 x1 (wrap64 (x6 - 1)))) else (none)) else (none)
def spec_Last.l1 : Nat → List Bool → Int → Int → Int → Option (Int × Int)
  | 0, _, _, _, _ => none
  | k + 1, x0, x1, x6, x7 => if x7 > 0 then (if 0 ≤ (wrap64 (x7 - 1)) then (if (wrap64 (x7 - 1)) < (x0.length : Int) then (if rdOf false x0 (wrap64 (x7 - 1)) = true then (if (wrap64 (x6 - x7)) < x1 then (spec_Last.l1 k x0 x1 x6 (wrap64 (x7 - 1))) else (some (x7, wrap64 (x6 - x7)))) else (some (x7, wrap64 (x6 - x7)))) else (none)) else (none)) else (some (x7, wrap64 (x6 - x7)))
end
def spec_Last.f (k : Nat) (l0 : List Bool) (a1 : Int) : Option (Int × Int) := spec_Last.l0 k l0 a1 (l0.length : Int)
theorem spec_Last.mono_l : ∀ k, (∀ y0 y1 y2, LeO (spec_Last.l0 k y0 y1 y2) (spec_Last.l0 (k + 1) y0 y1 y2)) ∧ (∀ y0 y1 y2 y3, LeO (spec_Last.l1 k y0 y1 y2 y3) (spec_Last.l1 (k + 1) y0 y1 y2 y3))
  | 0 => ⟨fun _ _ _ r h => by simp [spec_Last.l0] at h, fun _ _ _ _ r h => by simp [spec_Last.l1] at h⟩
  | k + 1 => by
    obtain ⟨ih0, ih1⟩ := spec_Last.mono_l k
    refine ⟨?_, ?_⟩
    · intro y0 y1 y2
      unfold spec_Last.l0
      repeat' first
      | (with_reducible exact ih0 _ _ _)
      | (with_reducible exact ih1 _ _ _ _)
      | (with_reducible exact LeO.refl _)
      | (with_reducible exact LeO.none _)
      | (with_reducible refine LeO.ite ?_ ?_)
      | (with_reducible refine LeO.bind ?_ (fun _ => ?_))
      | exact ih0 _ _ _
      | exact ih1 _ _ _ _
      | exact LeO.none _
      | refine LeO.ite ?_ ?_
      | refine LeO.bind ?_ (fun _ => ?_)
    · intro y0 y1 y2 y3
      unfold spec_Last.l1
      repeat' first
      | (with_reducible exact ih0 _ _ _)
      | (with_reducible exact ih1 _ _ _ _)
      | (with_reducible exact LeO.refl _)
      | (with_reducible exact LeO.none _)
      | (with_reducible refine LeO.ite ?_ ?_)
      | (with_reducible refine LeO.bind ?_ (fun _ => ?_))
      | exact ih0 _ _ _
      | exact ih1 _ _ _ _
      | exact LeO.none _
      | refine LeO.ite ?_ ?_
      | refine LeO.bind ?_ (fun _ => ?_)
theorem spec_Last.mono : ∀ a0 a1 k, LeO (spec_Last.f k a0 a1) (spec_Last.f (k + 1) a0 a1) := by
  intro a0 a1 k
  obtain ⟨ih0, ih1⟩ := spec_Last.mono_l k
  unfold spec_Last.f
  repeat' first
      | (with_reducible exact ih0 _ _ _)
      | (with_reducible exact ih1 _ _ _ _)
      | (with_reducible exact LeO.refl _)
      | (with_reducible exact LeO.none _)
      | (with_reducible refine LeO.ite ?_ ?_)
      | (with_reducible refine LeO.bind ?_ (fun _ => ?_))
      | exact ih0 _ _ _
      | exact ih1 _ _ _ _
      | exact LeO.none _
      | refine LeO.ite ?_ ?_
      | refine LeO.bind ?_ (fun _ => ?_)
set_option maxHeartbeats 8000000 in
set_option maxRecDepth 100000 in
theorem spec_Last.calls (k : Nat) (A0 : Option Addr) (c0 : Nat) (l0 : List Bool) (a1 : Int) (r1 : Int) (r2 : Int) (w : World) (hr0 : Kd.C Kd.bool w A0 l0.length l0) (hc0 : l0.length ≤ c0) (h : spec_Last.f k l0 a1 = some (r1, r2)) :
    Calls Try.prog 10 #[.slice A0 l0.length c0, .int .i64 a1] w fun e w' => e = .returned (.tuple #[.int .i64 r1, .int .i64 r2]) ∧ Drawn0 w w' := by
  have HR0 := Aside0.mk hr0
  have HC0 := Aside0.mk hc0
  clear hr0 hc0
  have H : (spec_Last.l0 k l0 a1 (l0.length : Int)) = some (r1, r2) := h
  clear h
  have H' := Aside0.mk H
  clear H
  go_enter Try.func10, Try.ntmps10
  go_wp2
  go_loopg [6] k (fun kq v6 w' => ∃ (x6_1 : Int), v6 = .int .i64 x6_1 ∧ Aside0 (spec_Last.l0 kq l0 a1 x6_1 = some (r1, r2)) ∧ Aside0 (kq ≤ k) ∧ Drawn0 w w')
  case atStart => exact ⟨((l0.length : Int)), (by first | rfl | (simp; done) | (simp [*]; done)), H', ⟨Nat.le_refl _⟩, by repeat (first | exact Drawn0.refl _ | apply Drawn0.step)⟩
  case round =>
    clear H'
    try clear c1
    try clear p2
    obtain ⟨x6_1, rfl, HA, HK1, ⟨m1, rfl⟩⟩ := hrel
    cases gk with
    | zero => exact absurd HA.out (by simp [spec_Last.l0])
    | succ k1 =>
      have H := HA.out
      clear HA
      simp only [spec_Last.l0] at H
      obtain ⟨ji3, hji3⟩ : ∃ j_ : Int, (wrap64 (x6_1 - 1)) = j_ := ⟨_, rfl⟩
      replace H : (if 0 ≤ (ji3) then (if (ji3) < (l0.length : Int) then (if (rdOf false l0 (ji3) = true) then (spec_Last.l1 k1 l0 a1 x6_1 x6_1) else (spec_Last.l0 k1 l0 a1 ji3)) else (none)) else (none)) = some (r1, r2) := by first | (rw [hji3] at H; exact H) | (simp only [hji3] at H ⊢; exact H)
      have hji3w : (IntKind.i64.wrap (x6_1 - 1)) = ji3 := (i64_w _).trans hji3
      by_cases c4 : 0 ≤ (ji3)
      · rw [if_pos c4] at H
        have c4b0 : decide (0 ≤ (ji3)) = true := decide_eq_true c4
        clear c4
        by_cases c5 : (ji3) < (l0.length : Int)
        · rw [if_pos c5] at H
          have c5b0 : decide ((ji3) < (l0.length : Int)) = true := decide_eq_true c5
          clear c5
          obtain ⟨bq6, hbq6⟩ : ∃ b_ : Bool, b_ = (rdOf false l0 (ji3)) := ⟨_, rfl⟩
          replace H : (if (bq6 = true) then (spec_Last.l1 k1 l0 a1 x6_1 x6_1) else (spec_Last.l0 k1 l0 a1 ji3)) = some (r1, r2) := by rw [← hbq6] at H; exact H
          have Nbq6 := Aside0.mk hbq6
          clear hbq6
          by_cases c7 : (bq6 = true)
          · subst c7
            have H1 : (spec_Last.l1 k1 l0 a1 x6_1 x6_1) = some (r1, r2) := by rw [if_pos rfl] at H; exact H
            clear H
            have H := H1
            clear H1
            have H' := Aside0.mk H
            clear H
            have p196 : 0 ≤ ((ji3) : Int) := of_decide_eq_true (by first | (with_reducible assumption) | assumption)
            have q196 : (ji3) < (l0.length : Int) := of_decide_eq_true (by first | (with_reducible assumption) | assumption)
            obtain ⟨ad196, e196, hx196_0⟩ := Kd.at_bool HR0.out (ji3) p196 q196
            (try rw [← Nbq6.out] at hx196_0)
            cases e196
            replace p196 := eq_true p196
            replace q196 := eq_true q196
            go_wp2
            go_loopg [7] k1 (fun kq v7 w' => ∃ (x7_2 : Int), v7 = .int .i64 x7_2 ∧ Aside0 (spec_Last.l1 kq l0 a1 x6_1 x7_2 = some (r1, r2)) ∧ Aside0 (kq ≤ k1) ∧ Drawn0 w w')
            case atStart => exact ⟨(x6_1), (by first | rfl | (simp; done) | (simp [*]; done)), H', ⟨Nat.le_refl _⟩, by repeat (first | exact Drawn0.refl _ | apply Drawn0.step)⟩
            case round =>
              clear H'
              try clear c1
              try clear p1
              try clear q1
              try clear hx1
              try clear p2
              try clear c4
              try clear c4b0
              try clear c5
              try clear c5b0
              try clear p6
              try clear q6
              try clear c7
              try clear hx196_0
              try clear p196
              try clear p2
              try clear q196
              obtain ⟨x7_2, rfl, HA, HK2, ⟨m2, rfl⟩⟩ := hrel
              cases gk with
              | zero => exact absurd HA.out (by simp [spec_Last.l1])
              | succ k2 =>
                have H := HA.out
                clear HA
                simp only [spec_Last.l1] at H
                by_cases c8 : x7_2 > 0
                · rw [if_pos c8] at H
                  have c8b0 : decide (0 < x7_2) = true := decide_eq_true c8
                  clear c8
                  obtain ⟨ji9, hji9⟩ : ∃ j_ : Int, (wrap64 (x7_2 - 1)) = j_ := ⟨_, rfl⟩
                  replace H : (if 0 ≤ (ji9) then (if (ji9) < (l0.length : Int) then (if rdOf false l0 (ji9) = true then (if (wrap64 (x6_1 - x7_2)) < a1 then (spec_Last.l1 k2 l0 a1 x6_1 ji9) else (some (x7_2, wrap64 (x6_1 - x7_2)))) else (some (x7_2, wrap64 (x6_1 - x7_2)))) else (none)) else (none)) = some (r1, r2) := by first | (rw [hji9] at H; exact H) | (simp only [hji9] at H ⊢; exact H)
                  have hji9w : (IntKind.i64.wrap (x7_2 - 1)) = ji9 := (i64_w _).trans hji9
                  by_cases c10 : 0 ≤ (ji9)
                  · rw [if_pos c10] at H
                    have c10b0 : decide (0 ≤ (ji9)) = true := decide_eq_true c10
                    clear c10
                    by_cases c11 : (ji9) < (l0.length : Int)
                    · rw [if_pos c11] at H
                      have c11b0 : decide ((ji9) < (l0.length : Int)) = true := decide_eq_true c11
                      clear c11
                      obtain ⟨bq12, hbq12⟩ : ∃ b_ : Bool, b_ = (rdOf false l0 (ji9)) := ⟨_, rfl⟩
                      replace H : (if bq12 = true then (if (wrap64 (x6_1 - x7_2)) < a1 then (spec_Last.l1 k2 l0 a1 x6_1 ji9) else (some (x7_2, wrap64 (x6_1 - x7_2)))) else (some (x7_2, wrap64 (x6_1 - x7_2)))) = some (r1, r2) := by rw [← hbq12] at H; exact H
                      have Nbq12 := Aside0.mk hbq12
                      clear hbq12
                      by_cases c13 : bq12 = true
                      · subst c13
                        have H1 : (if (wrap64 (x6_1 - x7_2)) < a1 then (spec_Last.l1 k2 l0 a1 x6_1 ji9) else (some (x7_2, wrap64 (x6_1 - x7_2)))) = some (r1, r2) := by rw [if_pos rfl] at H; exact H
                        clear H
                        have H := H1
                        clear H1
                        by_cases c14 : (wrap64 (x6_1 - x7_2)) < a1
                        · rw [if_pos c14] at H
                          have c14b0 : decide ((wrap64 (x6_1 - x7_2)) < a1) = true := decide_eq_true c14
                          clear c14
                          have H' := Aside0.mk H
                          clear H
                          have p197 : 0 ≤ ((ji9) : Int) := of_decide_eq_true (by first | (with_reducible assumption) | assumption)
                          have q197 : (ji9) < (l0.length : Int) := of_decide_eq_true (by first | (with_reducible assumption) | assumption)
                          obtain ⟨ad197, e197, hx197_0⟩ := Kd.at_bool HR0.out (ji9) p197 q197
                          (try rw [← Nbq6.out] at hx197_0)
                          (try rw [← Nbq12.out] at hx197_0)
                          obtain rfl : ad196 = ad197 := (by injection e197)
                          replace p197 := eq_true p197
                          replace q197 := eq_true q197
                          go_wp2
                          go_roundg k2
                          case measure => have := HK1.out; have := HK2.out; omega
                          case rel => exact ⟨(ji9), (by first | rfl | (simp; done) | (simp only [← hji9] <;> (first | rfl | simp)) | (simp [*]; done)), H', ⟨by have := HK1.out; have := HK2.out; omega⟩, by repeat (first | exact Drawn0.refl _ | apply Drawn0.step)⟩
                        · rw [if_neg c14] at H
                          have c14b0 : decide ((wrap64 (x6_1 - x7_2)) < a1) = false := decide_eq_false c14
                          clear c14
                          simp only [Option.some.injEq, Prod.mk.injEq] at H
                          obtain ⟨rfl, rfl⟩ := H
                          have p197 : 0 ≤ ((ji9) : Int) := of_decide_eq_true (by first | (with_reducible assumption) | assumption)
                          have q197 : (ji9) < (l0.length : Int) := of_decide_eq_true (by first | (with_reducible assumption) | assumption)
                          obtain ⟨ad197, e197, hx197_0⟩ := Kd.at_bool HR0.out (ji9) p197 q197
                          (try rw [← Nbq6.out] at hx197_0)
                          (try rw [← Nbq12.out] at hx197_0)
                          obtain rfl : ad196 = ad197 := (by injection e197)
                          replace p197 := eq_true p197
                          replace q197 := eq_true q197
                          go_wp2
                          go_ret2
                          exact ⟨by first | rfl | (simp; done) | (simp only [← hji3, ← hji9] <;> (first | rfl | simp)) | (simp [*]; done), by repeat (first | exact Drawn0.refl _ | apply Drawn0.step)⟩
                      · replace c13 := Bool.eq_false_iff.mpr c13
                        subst c13
                        have H1 : (some (x7_2, wrap64 (x6_1 - x7_2))) = some (r1, r2) := by rw [if_neg (show ¬ (false = true) by decide)] at H; exact H
                        clear H
                        have H := H1
                        clear H1
                        simp only [Option.some.injEq, Prod.mk.injEq] at H
                        obtain ⟨rfl, rfl⟩ := H
                        have p197 : 0 ≤ ((ji9) : Int) := of_decide_eq_true (by first | (with_reducible assumption) | assumption)
                        have q197 : (ji9) < (l0.length : Int) := of_decide_eq_true (by first | (with_reducible assumption) | assumption)
                        obtain ⟨ad197, e197, hx197_0⟩ := Kd.at_bool HR0.out (ji9) p197 q197
                        (try rw [← Nbq6.out] at hx197_0)
                        (try rw [← Nbq12.out] at hx197_0)
                        obtain rfl : ad196 = ad197 := (by injection e197)
                        replace p197 := eq_true p197
                        replace q197 := eq_true q197
                        go_wp2
                        go_ret2
                        exact ⟨by first | rfl | (simp; done) | (simp only [← hji3, ← hji9] <;> (first | rfl | simp)) | (simp [*]; done), by repeat (first | exact Drawn0.refl _ | apply Drawn0.step)⟩
                    · rw [if_neg c11] at H
                      exact absurd H (by simp)
                  · rw [if_neg c10] at H
                    exact absurd H (by simp)
                · rw [if_neg c8] at H
                  have c8b0 : decide (0 < x7_2) = false := decide_eq_false c8
                  clear c8
                  simp only [Option.some.injEq, Prod.mk.injEq] at H
                  obtain ⟨rfl, rfl⟩ := H
                  go_wp2
                  go_ret2
                  exact ⟨by first | rfl | (simp; done) | (simp only [← hji3] <;> (first | rfl | simp)) | (simp [*]; done), by repeat (first | exact Drawn0.refl _ | apply Drawn0.step)⟩
          · replace c7 := Bool.eq_false_iff.mpr c7
            subst c7
            have H1 : (spec_Last.l0 k1 l0 a1 ji3) = some (r1, r2) := by rw [if_neg (show ¬ (false = true) by decide)] at H; exact H
            clear H
            have H := H1
            clear H1
            have H' := Aside0.mk H
            clear H
            have p196 : 0 ≤ ((ji3) : Int) := of_decide_eq_true (by first | (with_reducible assumption) | assumption)
            have q196 : (ji3) < (l0.length : Int) := of_decide_eq_true (by first | (with_reducible assumption) | assumption)
            obtain ⟨ad196, e196, hx196_0⟩ := Kd.at_bool HR0.out (ji3) p196 q196
            (try rw [← Nbq6.out] at hx196_0)
            cases e196
            replace p196 := eq_true p196
            replace q196 := eq_true q196
            go_wp2
            go_roundg k1
            case measure => have := HK1.out; omega
            case rel => exact ⟨(ji3), (by first | rfl | (simp; done) | (simp only [← hji3] <;> (first | rfl | simp)) | (simp [*]; done)), H', ⟨by have := HK1.out; omega⟩, by repeat (first | exact Drawn0.refl _ | apply Drawn0.step)⟩
        · rw [if_neg c5] at H
          exact absurd H (by simp)
      · rw [if_neg c4] at H
        exact absurd H (by simp)

/-! ### spec_Count: function 12 -/
def spec_Count.l0 : Nat → Int → List Bool → Int → Int → Option (Int)
  | 0, _, _, _, _ => none
  | k + 1, x3, x6, x7, x8 => if x8 < x7 then (if 0 ≤ x8 then (if x8 < (x6.length : Int) then (if rdOf false x6 x8 = true then (spec_Count.l0 k (IntKind.u64.wrap (x3 + 1)) x6 x7 (wrap64 (x8 + 1))) else (spec_Count.l0 k x3 x6 x7 (wrap64 (x8 + 1)))) else (none)) else (none)) else (some x3)
def spec_Count.f (k : Nat) (l0 : List Bool) : Option (Int) := spec_Count.l0 k 0 l0 (l0.length : Int) 0
theorem spec_Count.mono_l : ∀ k, (∀ y0 y1 y2 y3, LeO (spec_Count.l0 k y0 y1 y2 y3) (spec_Count.l0 (k + 1) y0 y1 y2 y3))
  | 0 => fun _ _ _ _ r h => by simp [spec_Count.l0] at h
  | k + 1 => by
    have ih0 := spec_Count.mono_l k
    · intro y0 y1 y2 y3
      unfold spec_Count.l0
      repeat' first
      | (with_reducible exact ih0 _ _ _ _)
      | (with_reducible exact LeO.refl _)
      | (with_reducible exact LeO.none _)
      | (with_reducible refine LeO.ite ?_ ?_)
      | (with_reducible refine LeO.bind ?_ (fun _ => ?_))
      | exact ih0 _ _ _ _
      | exact LeO.none _
      | refine LeO.ite ?_ ?_
      | refine LeO.bind ?_ (fun _ => ?_)
theorem spec_Count.mono : ∀ a0 k, LeO (spec_Count.f k a0) (spec_Count.f (k + 1) a0) := by
  intro a0 k
  have ih0 := spec_Count.mono_l k
  unfold spec_Count.f
  repeat' first
      | (with_reducible exact ih0 _ _ _ _)
      | (with_reducible exact LeO.refl _)
      | (with_reducible exact LeO.none _)
      | (with_reducible refine LeO.ite ?_ ?_)
      | (with_reducible refine LeO.bind ?_ (fun _ => ?_))
      | exact ih0 _ _ _ _
      | exact LeO.none _
      | refine LeO.ite ?_ ?_
      | refine LeO.bind ?_ (fun _ => ?_)
set_option maxHeartbeats 8000000 in
set_option maxRecDepth 100000 in
theorem spec_Count.calls (k : Nat) (A0 : Option Addr) (c0 : Nat) (l0 : List Bool) (r : Int) (w : World) (hr0 : Kd.C Kd.bool w A0 l0.length l0) (hc0 : l0.length ≤ c0) (h : spec_Count.f k l0 = some r) :
    Calls Try.prog 12 #[.slice A0 l0.length c0] w fun e w' => e = .returned (.int .u64 r) ∧ Drawn0 w w' := by
  have HR0 := Aside0.mk hr0
  have HC0 := Aside0.mk hc0
  clear hr0 hc0
  have H : (spec_Count.l0 k 0 l0 (l0.length : Int) 0) = some r := h
  clear h
  have H' := Aside0.mk H
  clear H
  go_enter Try.func12, Try.ntmps12
  go_wp2
  go_loopg [3, 8] k (fun kq v3 v8 w' => ∃ (x3_1 : Int) (x8_1 : Int), v3 = .int .u64 x3_1 ∧ v8 = .int .i64 x8_1 ∧ Aside0 (spec_Count.l0 kq x3_1 l0 (l0.length : Int) x8_1 = some r) ∧ Aside0 (kq ≤ k) ∧ Drawn0 w w')
  case atStart => exact ⟨(0), (0), (by first | rfl | (simp; done) | (simp [*]; done)), (by first | rfl | (simp; done) | (simp [*]; done)), H', ⟨Nat.le_refl _⟩, by repeat (first | exact Drawn0.refl _ | apply Drawn0.step)⟩
  case round =>
    clear H'
    try clear c1
    obtain ⟨x3_1, x8_1, rfl, rfl, HA, HK1, ⟨m1, rfl⟩⟩ := hrel
    cases gk with
    | zero => exact absurd HA.out (by simp [spec_Count.l0])
    | succ k1 =>
      have H := HA.out
      clear HA
      simp only [spec_Count.l0] at H
      by_cases c2 : x8_1 < (l0.length : Int)
      · rw [if_pos c2] at H
        have c2b0 : decide (x8_1 < (l0.length : Int)) = true := decide_eq_true c2
        clear c2
        by_cases c3 : 0 ≤ x8_1
        · rw [if_pos c3] at H
          have c3b0 : decide (0 ≤ x8_1) = true := decide_eq_true c3
          clear c3
          by_cases c4 : x8_1 < (l0.length : Int)
          · rw [if_pos c4] at H
            have c4b0 : decide (x8_1 < (l0.length : Int)) = true := decide_eq_true c4
            clear c4
            obtain ⟨bq5, hbq5⟩ : ∃ b_ : Bool, b_ = (rdOf false l0 x8_1) := ⟨_, rfl⟩
            replace H : (if bq5 = true then (spec_Count.l0 k1 (IntKind.u64.wrap (x3_1 + 1)) l0 (l0.length : Int) (wrap64 (x8_1 + 1))) else (spec_Count.l0 k1 x3_1 l0 (l0.length : Int) (wrap64 (x8_1 + 1)))) = some r := by rw [← hbq5] at H; exact H
            have Nbq5 := Aside0.mk hbq5
            clear hbq5
            by_cases c6 : bq5 = true
            · subst c6
              have H1 : (spec_Count.l0 k1 (IntKind.u64.wrap (x3_1 + 1)) l0 (l0.length : Int) (wrap64 (x8_1 + 1))) = some r := by rw [if_pos rfl] at H; exact H
              clear H
              have H := H1
              clear H1
              have H' := Aside0.mk H
              clear H
              have p220 : 0 ≤ (x8_1 : Int) := of_decide_eq_true (by first | (with_reducible assumption) | assumption)
              have q220 : x8_1 < (l0.length : Int) := of_decide_eq_true (by first | (with_reducible assumption) | assumption)
              obtain ⟨ad220, e220, hx220_0⟩ := Kd.at_bool HR0.out x8_1 p220 q220
              (try rw [← Nbq5.out] at hx220_0)
              cases e220
              replace p220 := eq_true p220
              replace q220 := eq_true q220
              go_wp2
              go_roundg k1
              case measure => have := HK1.out; omega
              case rel => exact ⟨(IntKind.u64.wrap (x3_1 + 1)), (wrap64 (x8_1 + 1)), (by first | rfl | (simp; done) | (simp [*]; done)), (by first | rfl | (simp; done) | (simp [*]; done)), H', ⟨by have := HK1.out; omega⟩, by repeat (first | exact Drawn0.refl _ | apply Drawn0.step)⟩
            · replace c6 := Bool.eq_false_iff.mpr c6
              subst c6
              have H1 : (spec_Count.l0 k1 x3_1 l0 (l0.length : Int) (wrap64 (x8_1 + 1))) = some r := by rw [if_neg (show ¬ (false = true) by decide)] at H; exact H
              clear H
              have H := H1
              clear H1
              have H' := Aside0.mk H
              clear H
              have p220 : 0 ≤ (x8_1 : Int) := of_decide_eq_true (by first | (with_reducible assumption) | assumption)
              have q220 : x8_1 < (l0.length : Int) := of_decide_eq_true (by first | (with_reducible assumption) | assumption)
              obtain ⟨ad220, e220, hx220_0⟩ := Kd.at_bool HR0.out x8_1 p220 q220
              (try rw [← Nbq5.out] at hx220_0)
              cases e220
              replace p220 := eq_true p220
              replace q220 := eq_true q220
              go_wp2
              go_roundg k1
              case measure => have := HK1.out; omega
              case rel => exact ⟨(x3_1), (wrap64 (x8_1 + 1)), (by first | rfl | (simp; done) | (simp [*]; done)), (by first | rfl | (simp; done) | (simp [*]; done)), H', ⟨by have := HK1.out; omega⟩, by repeat (first | exact Drawn0.refl _ | apply Drawn0.step)⟩
          · rw [if_neg c4] at H
            exact absurd H (by simp)
        · rw [if_neg c3] at H
          exact absurd H (by simp)
      · rw [if_neg c2] at H
        have c2b0 : decide (x8_1 < (l0.length : Int)) = false := decide_eq_false c2
        clear c2
        obtain rfl := Option.some.inj H
        go_wp2
        go_ret
        exact ⟨by first | rfl | (simp; done) | (simp [*]; done), by repeat (first | exact Drawn0.refl _ | apply Drawn0.step)⟩

/-! ### spec_Next: function 15 -/
def spec_Next.l0 : Nat → List Bool → Int → Option (Int)
  | 0, _, _ => none
  | k + 1, x0, x1 => if x1 < (x0.length : Int) then (if 0 ≤ x1 then (if rdOf false x0 x1 = true then (some x1) else (spec_Next.l0 k x0 (wrap64 (x1 + 1)))) else (none)) else (some (-1))
def spec_Next.f (k : Nat) (l0 : List Bool) (a1 : Int) : Option (Int) := spec_Next.l0 k l0 a1
theorem spec_Next.mono_l : ∀ k, (∀ y0 y1, LeO (spec_Next.l0 k y0 y1) (spec_Next.l0 (k + 1) y0 y1))
  | 0 => fun _ _ r h => by simp [spec_Next.l0] at h
  | k + 1 => by
    have ih0 := spec_Next.mono_l k
    · intro y0 y1
      unfold spec_Next.l0
      repeat' first
      | (with_reducible exact ih0 _ _)
      | (with_reducible exact LeO.refl _)
      | (with_reducible exact LeO.none _)
      | (with_reducible refine LeO.ite ?_ ?_)
      | (with_reducible refine LeO.bind ?_ (fun _ => ?_))
      | exact ih0 _ _
      | exact LeO.none _
      | refine LeO.ite ?_ ?_
      | refine LeO.bind ?_ (fun _ => ?_)
theorem spec_Next.mono : ∀ a0 a1 k, LeO (spec_Next.f k a0 a1) (spec_Next.f (k + 1) a0 a1) := by
  intro a0 a1 k
  have ih0 := spec_Next.mono_l k
  unfold spec_Next.f
  repeat' first
      | (with_reducible exact ih0 _ _)
      | (with_reducible exact LeO.refl _)
      | (with_reducible exact LeO.none _)
      | (with_reducible refine LeO.ite ?_ ?_)
      | (with_reducible refine LeO.bind ?_ (fun _ => ?_))
      | exact ih0 _ _
      | exact LeO.none _
      | refine LeO.ite ?_ ?_
      | refine LeO.bind ?_ (fun _ => ?_)
set_option maxHeartbeats 8000000 in
set_option maxRecDepth 100000 in
theorem spec_Next.calls (k : Nat) (A0 : Option Addr) (c0 : Nat) (l0 : List Bool) (a1 : Int) (r : Int) (w : World) (hr0 : Kd.C Kd.bool w A0 l0.length l0) (hc0 : l0.length ≤ c0) (h : spec_Next.f k l0 a1 = some r) :
    Calls Try.prog 15 #[.slice A0 l0.length c0, .int .i64 a1] w fun e w' => e = .returned (.int .i64 r) ∧ Drawn0 w w' := by
  have HR0 := Aside0.mk hr0
  have HC0 := Aside0.mk hc0
  clear hr0 hc0
  have H : (spec_Next.l0 k l0 a1) = some r := h
  clear h
  have H' := Aside0.mk H
  clear H
  go_enter Try.func15, Try.ntmps15
  go_wp2
  go_loopg [1] k (fun kq v1 w' => ∃ (x1_1 : Int), v1 = .int .i64 x1_1 ∧ Aside0 (spec_Next.l0 kq l0 x1_1 = some r) ∧ Aside0 (kq ≤ k) ∧ Drawn0 w w')
  case atStart => exact ⟨(a1), (by first | rfl | (simp; done) | (simp [*]; done)), H', ⟨Nat.le_refl _⟩, by repeat (first | exact Drawn0.refl _ | apply Drawn0.step)⟩
  case round =>
    clear H'
    try clear c1
    try clear p2
    obtain ⟨x1_1, rfl, HA, HK1, ⟨m1, rfl⟩⟩ := hrel
    cases gk with
    | zero => exact absurd HA.out (by simp [spec_Next.l0])
    | succ k1 =>
      have H := HA.out
      clear HA
      simp only [spec_Next.l0] at H
      by_cases c3 : x1_1 < (l0.length : Int)
      · rw [if_pos c3] at H
        have c3b0 : decide (x1_1 < (l0.length : Int)) = true := decide_eq_true c3
        clear c3
        by_cases c4 : 0 ≤ x1_1
        · rw [if_pos c4] at H
          have c4b0 : decide (0 ≤ x1_1) = true := decide_eq_true c4
          clear c4
          obtain ⟨bq5, hbq5⟩ : ∃ b_ : Bool, b_ = (rdOf false l0 x1_1) := ⟨_, rfl⟩
          replace H : (if bq5 = true then (some x1_1) else (spec_Next.l0 k1 l0 (wrap64 (x1_1 + 1)))) = some r := by rw [← hbq5] at H; exact H
          have Nbq5 := Aside0.mk hbq5
          clear hbq5
          by_cases c6 : bq5 = true
          · subst c6
            have H1 : (some x1_1) = some r := by rw [if_pos rfl] at H; exact H
            clear H
            have H := H1
            clear H1
            obtain rfl := Option.some.inj H
            have p237 : 0 ≤ (x1_1 : Int) := of_decide_eq_true (by first | (with_reducible assumption) | assumption)
            have q237 : x1_1 < (l0.length : Int) := of_decide_eq_true (by first | (with_reducible assumption) | assumption)
            obtain ⟨ad237, e237, hx237_0⟩ := Kd.at_bool HR0.out x1_1 p237 q237
            (try rw [← Nbq5.out] at hx237_0)
            cases e237
            replace p237 := eq_true p237
            replace q237 := eq_true q237
            go_wp2
            go_ret
            exact ⟨by first | rfl | (simp; done) | (simp [*]; done), by repeat (first | exact Drawn0.refl _ | apply Drawn0.step)⟩
          · replace c6 := Bool.eq_false_iff.mpr c6
            subst c6
            have H1 : (spec_Next.l0 k1 l0 (wrap64 (x1_1 + 1))) = some r := by rw [if_neg (show ¬ (false = true) by decide)] at H; exact H
            clear H
            have H := H1
            clear H1
            have H' := Aside0.mk H
            clear H
            have p237 : 0 ≤ (x1_1 : Int) := of_decide_eq_true (by first | (with_reducible assumption) | assumption)
            have q237 : x1_1 < (l0.length : Int) := of_decide_eq_true (by first | (with_reducible assumption) | assumption)
            obtain ⟨ad237, e237, hx237_0⟩ := Kd.at_bool HR0.out x1_1 p237 q237
            (try rw [← Nbq5.out] at hx237_0)
            cases e237
            replace p237 := eq_true p237
            replace q237 := eq_true q237
            go_wp2
            go_roundg k1
            case measure => have := HK1.out; omega
            case rel => exact ⟨(wrap64 (x1_1 + 1)), (by first | rfl | (simp; done) | (simp [*]; done)), H', ⟨by have := HK1.out; omega⟩, by repeat (first | exact Drawn0.refl _ | apply Drawn0.step)⟩
        · rw [if_neg c4] at H
          exact absurd H (by simp)
      · rw [if_neg c3] at H
        have c3b0 : decide (x1_1 < (l0.length : Int)) = false := decide_eq_false c3
        clear c3
        obtain rfl := Option.some.inj H
        go_wp2
        go_ret
        exact ⟨by first | rfl | (simp; done) | (simp [*]; done), by repeat (first | exact Drawn0.refl _ | apply Drawn0.step)⟩

end Go.Proofs.Yticjdbdhnfmidaa.K
