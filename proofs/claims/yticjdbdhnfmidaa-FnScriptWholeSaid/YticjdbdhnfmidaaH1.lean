/-
  The walks of spec.Free and of makeAddrRange: what each computes (KD0), said of every call whose arguments KD0's functions take. (Free's walk: lines that the kit's print has written for this claim, turned at the length of the slice.)
-/
import Derived.Test.YticjdbdhnfmidaaKD0
import Derived.Test.YticjdbdhnfmidaaKB
import Derived.WalkLawsBesides
namespace Go.Proofs.Yticjdbdhnfmidaa.K
open Go.RowKit Go.Proofs.YticjdbdhnfmidaaW.PrintWords Go.Proofs.YticjdbdhnfmidaaW.PrintLast Go.Proofs.YticjdbdhnfmidaaW.PrintMore
set_option linter.unusedVariables false
set_option linter.unusedSimpArgs false

set_option maxHeartbeats 8000000 in
set_option maxRecDepth 100000 in
theorem spec_Free.calls (k : Nat) (A0 : Option Addr) (c0 : Nat) (l0 : List Bool) (a1 : Int) (a2 : Int) (r : Bool) (w : World) (hr0 : Kd.C Kd.bool w A0 l0.length l0) (hc0 : l0.length ≤ c0) (h : spec_Free.f k l0 a1 a2 = some r) :
    Calls Try.prog 5 #[.slice A0 l0.length c0, .int .i64 a1, .int .i64 a2] w fun e w' => e = .returned (.bool r) ∧ Drawn0 w w' := by
  have HR0 := Aside0.mk hr0
  have HC0 := Aside0.mk hc0
  clear hr0 hc0
  have H : (if 0 ≤ a1 then (if a1 ≤ (wrap64 (a1 + a2)) then (if (wrap64 (a1 + a2)) ≤ (l0.length : Int) then (spec_Free.l0 k ((l0.take ((wrap64 (a1 + a2)) : Int).toNat).drop (a1 : Int).toNat) (((l0.take ((wrap64 (a1 + a2)) : Int).toNat).drop (a1 : Int).toNat).length : Int) 0) else (none)) else (none)) else (none)) = some r := h
  clear h
  by_cases c4 : 0 ≤ a1
  · rw [if_pos c4] at H
    have c4b0 := eq_true c4
    have c4b1 : decide (0 ≤ a1) = true := decide_eq_true c4
    clear c4
    by_cases c5 : a1 ≤ (wrap64 (a1 + a2))
    · rw [if_pos c5] at H
      have c5b0 := eq_true c5
      have c5b1 : decide (a1 ≤ (wrap64 (a1 + a2))) = true := decide_eq_true c5
      by_cases c6 : (wrap64 (a1 + a2)) ≤ (l0.length : Int)
      · rw [if_pos c6] at H
        have c6b0 := eq_true c6
        have c6b1 : decide ((wrap64 (a1 + a2)) ≤ (l0.length : Int)) = true := decide_eq_true c6
        have H' := Aside0.mk H
        clear H
        obtain ⟨i07, hi07, _, hsz7, _⟩ := info_parts info4
        obtain ⟨A7, hcut7, hA7, hC7⟩ := print_mid_of (P := Try.prog) Value.bool false 23 4 .i64 .i64 Try.underlying23 hi07 hsz7 A0 c0 l0 a1 (wrap64 (a1 + a2)) (of_decide_eq_true (by first | (with_reducible assumption) | assumption)) (by first | omega | exact of_decide_eq_true (by first | (with_reducible assumption) | assumption)) (of_decide_eq_true (by first | (with_reducible assumption) | assumption)) HC0.out
        have HR111 := Aside0.mk (Kd.C_of_reads (h1 := fun _ => rfl) (hA7 _ (Kd.reads_of_C HR0.out)))
        have HC111 := Aside0.mk hC7
        have HLN := Aside0.mk (show ((l0.take ((wrap64 (a1 + a2)) : Int).toNat).drop (a1 : Int).toNat).length = (wrap64 (a1 + a2)).toNat - a1.toNat from by rw [List.length_drop, List.length_take]; omega)
        clear hA7 hC7 hi07 hsz7
        go_enter Try.func5, Try.ntmps5
        go_wp2
        go_loopg [16] k (fun kq v16 w' => ∃ (x16_1 : Int), v16 = .int .i64 x16_1 ∧ Aside0 (spec_Free.l0 kq ((l0.take ((wrap64 (a1 + a2)) : Int).toNat).drop (a1 : Int).toNat) (((l0.take ((wrap64 (a1 + a2)) : Int).toNat).drop (a1 : Int).toNat).length : Int) x16_1 = some r) ∧ Aside0 (kq ≤ k) ∧ Drawn0 w w')
        case atStart => exact ⟨(0), (by first | rfl | (simp; done) | (simp [*]; done)), H', ⟨Nat.le_refl _⟩, by repeat (first | exact Drawn0.refl _ | apply Drawn0.step)⟩
        case round =>
          clear H'
          try clear p2
          try clear c4
          try clear c4b0
          try clear c4b1
          try clear c5
          try clear c5b0
          try clear c5b1
          try clear c6
          try clear c6b0
          try clear c6b1
          try clear p6
          obtain ⟨x16_1, rfl, HA, HK1, ⟨m1, rfl⟩⟩ := hrel
          cases gk with
          | zero => exact absurd HA.out (by simp [spec_Free.l0])
          | succ k1 =>
            have H := HA.out
            clear HA
            simp only [spec_Free.l0] at H
            by_cases c8 : x16_1 < (((l0.take ((wrap64 (a1 + a2)) : Int).toNat).drop (a1 : Int).toNat).length : Int)
            · rw [if_pos c8] at H
              have c8b0 : decide (x16_1 < (((l0.take ((wrap64 (a1 + a2)) : Int).toNat).drop (a1 : Int).toNat).length : Int)) = true := decide_eq_true c8
              have c8c0 : decide (x16_1 < ((((wrap64 (a1 + a2)).toNat - a1.toNat : Nat) : Int))) = true := by rw [← HLN.out]; exact c8b0
              clear c8
              by_cases c9 : 0 ≤ x16_1
              · rw [if_pos c9] at H
                have c9b0 : decide (0 ≤ x16_1) = true := decide_eq_true c9
                clear c9
                by_cases c10 : x16_1 < (((l0.take ((wrap64 (a1 + a2)) : Int).toNat).drop (a1 : Int).toNat).length : Int)
                · rw [if_pos c10] at H
                  have c10b0 : decide (x16_1 < (((l0.take ((wrap64 (a1 + a2)) : Int).toNat).drop (a1 : Int).toNat).length : Int)) = true := decide_eq_true c10
                  clear c10
                  obtain ⟨bq11, hbq11⟩ : ∃ b_ : Bool, b_ = (rdOf false ((l0.take ((wrap64 (a1 + a2)) : Int).toNat).drop (a1 : Int).toNat) x16_1) := ⟨_, rfl⟩
                  replace H : (if bq11 = true then (some false) else (spec_Free.l0 k1 ((l0.take ((wrap64 (a1 + a2)) : Int).toNat).drop (a1 : Int).toNat) (((l0.take ((wrap64 (a1 + a2)) : Int).toNat).drop (a1 : Int).toNat).length : Int) (wrap64 (x16_1 + 1)))) = some r := by rw [← hbq11] at H; exact H
                  have Nbq11 := Aside0.mk hbq11
                  clear hbq11
                  by_cases c12 : bq11 = true
                  · subst c12
                    have H1 : (some false) = some r := by rw [if_pos rfl] at H; exact H
                    clear H
                    have H := H1
                    clear H1
                    obtain rfl := Option.some.inj H
                    have p112 : 0 ≤ (x16_1 : Int) := of_decide_eq_true (by first | (with_reducible assumption) | assumption)
                    have q112 : x16_1 < (((l0.take ((wrap64 (a1 + a2)) : Int).toNat).drop (a1 : Int).toNat).length : Int) := of_decide_eq_true (by first | (with_reducible assumption) | assumption)
                    obtain ⟨ad112, e112, hx112_0⟩ := Kd.at_bool HR111.out x16_1 p112 q112
                    (try rw [← Nbq11.out] at hx112_0)
                    cases e112
                    replace p112 := eq_true p112
                    replace q112 := eq_true q112
                    have q112b : (x16_1 < ((((wrap64 (a1 + a2)).toNat - a1.toNat : Nat) : Int))) = True := by rw [← HLN.out]; exact q112
                    go_wp2
                    go_ret
                    exact ⟨by first | rfl | (simp; done) | (simp [*]; done), by repeat (first | exact Drawn0.refl _ | apply Drawn0.step)⟩
                  · replace c12 := Bool.eq_false_iff.mpr c12
                    subst c12
                    have H1 : (spec_Free.l0 k1 ((l0.take ((wrap64 (a1 + a2)) : Int).toNat).drop (a1 : Int).toNat) (((l0.take ((wrap64 (a1 + a2)) : Int).toNat).drop (a1 : Int).toNat).length : Int) (wrap64 (x16_1 + 1))) = some r := by rw [if_neg (show ¬ (false = true) by decide)] at H; exact H
                    clear H
                    have H := H1
                    clear H1
                    have H' := Aside0.mk H
                    clear H
                    have p112 : 0 ≤ (x16_1 : Int) := of_decide_eq_true (by first | (with_reducible assumption) | assumption)
                    have q112 : x16_1 < (((l0.take ((wrap64 (a1 + a2)) : Int).toNat).drop (a1 : Int).toNat).length : Int) := of_decide_eq_true (by first | (with_reducible assumption) | assumption)
                    obtain ⟨ad112, e112, hx112_0⟩ := Kd.at_bool HR111.out x16_1 p112 q112
                    (try rw [← Nbq11.out] at hx112_0)
                    cases e112
                    replace p112 := eq_true p112
                    replace q112 := eq_true q112
                    have q112b : (x16_1 < ((((wrap64 (a1 + a2)).toNat - a1.toNat : Nat) : Int))) = True := by rw [← HLN.out]; exact q112
                    go_wp2
                    go_roundg k1
                    case measure => have := HK1.out; omega
                    case rel => exact ⟨(wrap64 (x16_1 + 1)), (by first | rfl | (simp; done) | (simp [*]; done)), H', ⟨by have := HK1.out; omega⟩, by repeat (first | exact Drawn0.refl _ | apply Drawn0.step)⟩
                · rw [if_neg c10] at H
                  exact absurd H (by simp)
              · rw [if_neg c9] at H
                exact absurd H (by simp)
            · rw [if_neg c8] at H
              have c8b0 : decide (x16_1 < (((l0.take ((wrap64 (a1 + a2)) : Int).toNat).drop (a1 : Int).toNat).length : Int)) = false := decide_eq_false c8
              have c8c0 : decide (x16_1 < ((((wrap64 (a1 + a2)).toNat - a1.toNat : Nat) : Int))) = false := by rw [← HLN.out]; exact c8b0
              clear c8
              obtain rfl := Option.some.inj H
              go_wp2
              go_ret
              exact ⟨by first | rfl | (simp; done) | (simp [*]; done), by repeat (first | exact Drawn0.refl _ | apply Drawn0.step)⟩
      · rw [if_neg c6] at H
        exact absurd H (by simp)
    · rw [if_neg c5] at H
      exact absurd H (by simp)
  · rw [if_neg c4] at H
    exact absurd H (by simp)


theorem u64_off (a : Int) (h0 : 0 ≤ a) (h1 : a ≤ 1000) : IntKind.u64.wrap (a - 18446603336221196288) = a + 140737488355328 := by
  simp only [IntKind.wrap_u64]; omega

set_option maxHeartbeats 1000000 in
theorem mranges_makeAddrRange.calls (a0 : Int) (a1 : Int) (r1 : Int) (r2 : Int) (w : World) (h : mranges_makeAddrRange.f a0 a1 = some (r1, r2)) :
    Calls Try.prog 33 #[.int .u64 a0, .int .u64 a1] w fun e w' => e = .returned (.agg #[.int .u64 r1, .int .u64 r2]) ∧ Below w.heap.size w w' := by
  unfold mranges_makeAddrRange.f at h
  split at h
  · rename_i hc
    obtain ⟨h0, h1, h2, h3⟩ := hc
    injection h with h
    injection h with e1 e2
    subst e1 e2
    have k0 := u64_off a0 h0 h1
    have k1 := u64_off a1 h2 h3
    have d0 : decide (a0 ≤ a0 + 140737488355328) = true := decide_eq_true (by omega)
    have d1 : decide (a1 ≤ a1 + 140737488355328) = true := decide_eq_true (by omega)
    clear h0 h1 h2 h3
    go_enter Try.func33, Try.ntmps33
    go_wp2
    refine bodyPost_ret (v := .agg #[.int .u64 a0, .int .u64 a1]) (by simp [results, Try.results33, go_sem]) rfl ⟨rfl, ?_⟩
    exact ((Below.refl _ _).alloc (Nat.le_refl _) _).alloc (by simp) _
  · cases h

end Go.Proofs.Yticjdbdhnfmidaa.K
