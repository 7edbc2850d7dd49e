/-
  The walk of add of a list of ranges.
-/
import Derived.Test.YticjdbdhnfmidaaH9
namespace Go.Proofs.Yticjdbdhnfmidaa.K
open Go.RowKit Go.Proofs.YticjdbdhnfmidaaW.PrintWords Go.Proofs.YticjdbdhnfmidaaW.PrintLast Go.Proofs.YticjdbdhnfmidaaW.PrintMore

set_option maxRecDepth 100000 in
set_option maxHeartbeats 8000000 in
theorem add_c {w : World} {base g gr c : Nat} {cur : Array Value} {L : List S56} (hs : St w base g gr c cur L (sumL L)) (hf : fitL L = true) (hc1 : 1 ≤ c) (b l : Int) (b0 : 0 ≤ b) (bl : b < l) (l1 : l ≤ 1000) :
    Calls Try.prog 29 #[.pointer (some ⟨g, 0, none⟩), .agg #[.int .u64 b, .int .u64 l]] w fun e w' => ∃ gr' c' cur', e = .returned (.tuple #[]) ∧ St w' base g gr' c' cur' (addL L b l) (sumL (addL L b l)) ∧ Below base w w' := by
  have hle := succL_le L b
  have hlen := fitL_len hf
  obtain ⟨i, hi⟩ : ∃ i, i = succL L b := ⟨_, rfl⟩
  obtain ⟨N, hN⟩ : ∃ N, N = L.length := ⟨_, rfl⟩
  rw [← hi, ← hN] at hle
  rw [← hN] at hlen
  have HI := Aside0.mk hi
  have HN := Aside0.mk hN
  have HF := Aside0.mk hf
  have hbw : base ≤ w.heap.size := by have := hs.r0; have := blk_lt hs.rb; omega
  have hgr : gr < w.heap.size := blk_lt hs.rb
  have hgg : g < w.heap.size := blk_lt hs.gb
  have HS := Aside0.mk hs
  clear hs hf hi hN
  go_enter Try.func29, Try.ntmps29
  go_wp2_with fail
  have hb1 : Below w.heap.size w (w.alloc (.cells #[.int .u64 b, .int .u64 l] 71)) := below_alloc (Below.refl _ _) _
  have hx1 : (w.alloc (.cells #[.int .u64 b, .int .u64 l] 71)).heap[w.heap.size]? = some (.cells #[.int .u64 b, .int .u64 l] 71 (0, 0)) := blk_new _ _
  generalize (w.alloc (.cells #[.int .u64 b, .int .u64 l] 71)) = w1 at hb1 hx1 ⊢
  refine (size_c _ _ _ b0 bl l1).mono ?_
  rintro e w2 ⟨rfl, hb2⟩
  have HS2 := Aside0.mk ((HS.out.below hb1).below hb2)
  have HB2 := Aside0.mk (below_step hb1 hb2)
  have HX2 := Aside0.mk (blk_below hx1 hb2)
  clear hb1 hx1 hb2
  have cX0 := (blk_cell HX2.out 0).trans rfl
  have hne : ((l - b) == 0) = false := beq_eq_false_iff_ne.2 (by omega)
  go_wp2_with fail
  refine (addr_c _ _).mono ?_
  rintro e w3 ⟨rfl, hb3⟩
  have HS3 := Aside0.mk (HS2.out.below hb3)
  have HB3 := Aside0.mk (below_step HB2.out hb3)
  have HX3 := Aside0.mk (blk_below HX2.out hb3)
  clear cX0 hb3
  go_wp2_with fail
  refine (findSucc_c HS3.out HF.out b b0 (by omega)).mono ?_
  rintro e w4 ⟨rfl, hb4⟩
  rw [← HI.out]
  have HS4 := Aside0.mk (HS3.out.below hb4)
  have HB4 := Aside0.mk (below_step HB3.out hb4)
  have HX4 := Aside0.mk (blk_below HX3.out hb4)
  clear hb4
  go_upto_region 4 with fail
  go_cut [5] (fun v5 wx => v5 = .bool (downL L b) ∧ Aside0 (St wx base g gr c cur L (sumL L)) ∧ Aside0 (Below w.heap.size w wx) ∧ Aside0 (wx.heap[w.heap.size]? = some (.cells #[.int .u64 b, .int .u64 l] 71 (0, 0))))
  case first => as_aux_lemma =>
    have cS := HS4.out.cellS
    rw [← HN.out] at cS
    have cX0 := (blk_cell HX4.out 0).trans rfl
    by_cases h0 : i = 0
    · have hd : decide (0 < i) = false := decide_eq_false (by omega)
      have HD := Aside0.mk (show downL L b = false by unfold downL; rw [← HI.out, h0]; rfl)
      clear h0
      go_quiet (fail)
      go_wp2_with fail
      go_meet
      exact ⟨by rw [HD.out], ⟨HS4.out.below (pw_below_drewN (Below.refl _ _) _)⟩, ⟨pw_below_drewN HB4.out _⟩, ⟨blk_drewN HX4.out _⟩⟩
    · obtain ⟨m, hm⟩ : ∃ m, m = i - 1 := ⟨_, rfl⟩
      have hd : decide (0 < i) = true := decide_eq_true (by omega)
      have i0 : (0 : Int) ≤ (m : Int) := by omega
      have i1 : (m : Int) < (N : Int) := by omega
      have i2 : IntKind.i64.wrap ((i : Int) - 1) = (m : Int) := by simp only [IntKind.wrap_i64]; omega
      have hmL : m < L.length := by have := HN.out; omega
      have c1 := HS4.out.cell1 m hmL
      have HD := Aside0.mk (show downL L b = ((getL L m).f1 == b) by
        unfold downL
        rw [← HI.out, ← hm, decide_eq_true (by omega : 0 < i)]
        rfl)
      have HM := Aside0.mk hm
      clear h0 hm
      go_region_held3 (fun w' => w'.cell? ⟨g, 0, none⟩ = some (.slice (some ⟨gr, 0, none⟩) N c) ∧ w'.cell? ⟨gr, m * 2 + 1, none⟩ = some (.int .u64 (getL L m).f1) ∧ w'.cell? ⟨w.heap.size, 0, none⟩ = some (.int .u64 b) ∧ Aside0 (St w' base g gr c cur L (sumL L)) ∧ Aside0 (Below w.heap.size w w') ∧ Aside0 (w'.heap[w.heap.size]? = some (.cells #[.int .u64 b, .int .u64 l] 71 (0, 0)))) (first | exact ⟨cS, c1, cX0, ⟨HS4.out.drew⟩, ⟨below_drew1 HB4.out⟩, ⟨blk_drew HX4.out⟩⟩ | exact ⟨pw_cell_below hb s0, pw_cell_below hb s1, pw_cell_below hb s2, ⟨s3.out.below hb⟩, ⟨below_step s4.out hb⟩, ⟨blk_below s5.out hb⟩⟩) (first | (go_at_call 41; (obtain ⟨s0, s1, s2, s3, s4, s5⟩ := ‹_ ∧ _ ∧ _ ∧ _ ∧ _ ∧ _›); refine (equal_c _ _ _).mono ?_; rintro e w5 ⟨rfl, hb⟩))
      go_wp2_with fail
      obtain ⟨s0, s1, s2, s3, s4, s5⟩ := ‹_ ∧ _ ∧ _ ∧ _ ∧ _ ∧ _›
      go_meet
      exact ⟨by rw [HD.out], s3, s4, s5⟩
  case rest =>
    obtain ⟨rfl, HS5, HB5, HX5⟩ := hcut
    obtain ⟨dn, hdn⟩ : ∃ dn, dn = downL L b := ⟨_, rfl⟩
    rw [← hdn]
    have HDN := Aside0.mk hdn
    clear hdn
    go_upto_region 5 with fail
    go_cut [6] (fun v6 wx => v6 = .bool (upL L b l) ∧ Aside0 (St wx base g gr c cur L (sumL L)) ∧ Aside0 (Below w.heap.size w wx) ∧ Aside0 (wx.heap[w.heap.size]? = some (.cells #[.int .u64 b, .int .u64 l] 71 (0, 0))))
    case first => as_aux_lemma =>
      have cS := HS5.out.cellS
      rw [← HN.out] at cS
      have cX1 := (blk_cell HX5.out 1).trans rfl
      by_cases h0 : i < N
      · have hd : decide (i < N) = true := decide_eq_true (by omega)
        have i0 : (0 : Int) ≤ (i : Int) := by omega
        have i1 : (i : Int) < (N : Int) := by omega
        have hiL : i < L.length := by have := HN.out; omega
        have c0 := HS5.out.cell0 i hiL
        have HU := Aside0.mk (show upL L b l = (l == (getL L i).f0) by
          unfold upL
          rw [← HI.out, decide_eq_true hiL]
          rfl)
        clear h0
        go_region_held3 (fun w' => w'.cell? ⟨g, 0, none⟩ = some (.slice (some ⟨gr, 0, none⟩) N c) ∧ w'.cell? ⟨gr, i * 2, none⟩ = some (.int .u64 (getL L i).f0) ∧ w'.cell? ⟨w.heap.size, 1, none⟩ = some (.int .u64 l) ∧ Aside0 (St w' base g gr c cur L (sumL L)) ∧ Aside0 (Below w.heap.size w w') ∧ Aside0 (w'.heap[w.heap.size]? = some (.cells #[.int .u64 b, .int .u64 l] 71 (0, 0)))) (first | exact ⟨cS, c0, cX1, ⟨HS5.out.drew⟩, ⟨below_drew1 HB5.out⟩, ⟨blk_drew HX5.out⟩⟩ | exact ⟨pw_cell_below hb s0, pw_cell_below hb s1, pw_cell_below hb s2, ⟨s3.out.below hb⟩, ⟨below_step s4.out hb⟩, ⟨blk_below s5.out hb⟩⟩) (first | (go_at_call 41; (obtain ⟨s0, s1, s2, s3, s4, s5⟩ := ‹_ ∧ _ ∧ _ ∧ _ ∧ _ ∧ _›); refine (equal_c _ _ _).mono ?_; rintro e w5 ⟨rfl, hb⟩))
        go_wp2_with fail
        obtain ⟨s0, s1, s2, s3, s4, s5⟩ := ‹_ ∧ _ ∧ _ ∧ _ ∧ _ ∧ _›
        go_meet
        exact ⟨by rw [HU.out], s3, s4, s5⟩
      · have hd : decide (i < N) = false := decide_eq_false (by omega)
        have HU := Aside0.mk (show upL L b l = false by
          unfold upL
          rw [← HI.out, decide_eq_false (by have := HN.out; omega)]
          rfl)
        clear h0
        go_quiet (fail)
        go_wp2_with fail
        go_meet
        exact ⟨by rw [HU.out], ⟨HS5.out.below (pw_below_drewN (Below.refl _ _) _)⟩, ⟨pw_below_drewN HB5.out _⟩, ⟨blk_drewN HX5.out _⟩⟩
    case rest =>
      obtain ⟨rfl, HS6, HB6, HX6⟩ := hcut
      obtain ⟨up, hup⟩ : ∃ up, up = upL L b l := ⟨_, rfl⟩
      rw [← hup]
      have HUP := Aside0.mk hup
      clear hup
      go_upto_region 6 with fail
      go_cut [56] (fun v wx => v = .bool (up && dn) ∧ wx = wc)
      case first => as_aux_lemma =>
        cases up <;> cases dn <;> (go_wp2_with fail; go_meet; exact ⟨rfl, rfl⟩)
      case rest =>
        obtain ⟨rfl, rfl⟩ := hcut
        go_upto_if 56 with fail
        go_cut [] (fun wx => ∃ gr' c' cur', Aside0 (St wx base g gr' c' cur' (addL L b l) (sumL L)) ∧ Aside0 (Below base w wx) ∧ Aside0 (wx.heap[w.heap.size]? = some (.cells #[.int .u64 b, .int .u64 l] 71 (0, 0))))
        case first => as_aux_lemma =>
          have HC6 := Aside0.mk (HB6.out.mono hbw)
          have hiU : up = true → i < N := by
            intro h
            have h2 := HUP.out
            rw [h] at h2
            unfold upL at h2
            rw [← HI.out, ← HN.out] at h2
            have h3 := (Bool.and_eq_true _ _).mp h2.symm
            exact of_decide_eq_true h3.1
          have hiD : dn = true → 0 < i := by
            intro h
            have h2 := HDN.out
            rw [h] at h2
            unfold downL at h2
            rw [← HI.out] at h2
            have h3 := (Bool.and_eq_true _ _).mp h2.symm
            exact of_decide_eq_true h3.1
          have cS := HS6.out.cellS
          rw [← HN.out] at cS
          have cX0 := (blk_cell HX6.out 0).trans rfl
          have cX1 := (blk_cell HX6.out 1).trans rfl
          have nG : gr ≠ g := fun e => HS6.out.ne e.symm
          have nX : gr ≠ w.heap.size := by omega
          have nGX : g ≠ w.heap.size := by omega
          have i0 : (0 : Int) ≤ (i : Int) := by omega
          cases up with
          | true =>
            have hiN := hiU rfl
            have hiL : i < L.length := by have := HN.out; omega
            have i1 : (i : Int) < (N : Int) := by omega
            cases dn with
            | true =>
              as_aux_lemma =>
                have hi0 := hiD rfl
                obtain ⟨m, hm⟩ : ∃ m, m = i - 1 := ⟨_, rfl⟩
                have j0 : (0 : Int) ≤ (m : Int) := by omega
                have j1 : (m : Int) < (N : Int) := by omega
                have j2 : IntKind.i64.wrap ((i : Int) - 1) = (m : Int) := by simp only [IntKind.wrap_i64]; omega
                have hmL : m < L.length := by omega
                have HM := Aside0.mk hm
                obtain ⟨y, hy⟩ : ∃ y, y = getL L i := ⟨_, rfl⟩
                have cY1 := HS6.out.cell1 i hiL
                rw [← hy] at cY1
                have HY := Aside0.mk hy
                have cM1 := HS6.out.cell1 m hmL
                have fM1 := HS6.out.frozR (m * 2 + 1)
                have hmi : m < i := by omega
                clear hm hy
                go_wp2_with fail
                go_region_held3 (fun w' => w'.cell? ⟨g, 0, none⟩ = some (.slice (some ⟨gr, 0, none⟩) N c) ∧ w'.cell? ⟨gr, i * 2 + 1, none⟩ = some (.int .u64 y.f1)) (first | exact ⟨cS, cY1⟩ | (obtain ⟨s0, s1⟩ := ‹_ ∧ _›; exact ⟨(World.cell?_setCell_far _ _ _ _ nG).trans s0, (World.cell?_setCell_other _ _ _ _ (by intro e; injection e; omega)).trans s1⟩)) (fail)
                go_wp2_with fail
                have HS7 := (HS6.out.setR (m * 2 + 1) y.f1 (L' := L.take m ++ ⟨(getL L m).f0, y.f1⟩ :: L.drop (m + 1)) (by simp; omega) (cl_set1 L m hmL y.f1)).drew
                have HC7 := Aside0.mk (below_drew1 (HC6.out.setCell (p := ⟨gr, m * 2 + 1, none⟩) HS6.out.r0 (.int .u64 y.f1)))
                have HX7 := Aside0.mk (blk_drew (blk_far (p := ⟨gr, m * 2 + 1, none⟩) HX6.out (Ne.symm nX) (.int .u64 y.f1)))
                obtain ⟨L1, hL1⟩ : ∃ L1, L1 = L.take m ++ ⟨(getL L m).f0, y.f1⟩ :: L.drop (m + 1) := ⟨_, rfl⟩
                rw [← hL1] at HS7
                obtain ⟨cur7, HS7⟩ : ∃ cur7, Aside0 (St (wc.setCell ⟨gr, m * 2 + 1, none⟩ (.int .u64 y.f1)).drew base g gr c cur7 L1 (sumL L)) := ⟨_, ⟨HS7⟩⟩
                have HL1 := Aside0.mk hL1
                have hl1 : L1.length = N := by rw [hL1]; have := HN.out; simp; omega
                clear cS cX0 cX1 cY1 cM1 fM1 hL1
                generalize (wc.setCell ⟨gr, m * 2 + 1, none⟩ (.int .u64 y.f1)).drew = w7 at HS7 HC7 HX7 ⊢
                have cS := HS7.out.cellS
                rw [hl1] at cS
                have HLL := Aside0.mk hl1
                have hNc : N ≤ c := by rw [← hl1]; exact HS7.out.lc
                clear hl1
                obtain ⟨A1, hA1, hr1⟩ := slice_from gr N c i (i : Int) rfl (by omega) hNc
                obtain ⟨A2, hA2, hr2⟩ := slice_from gr N c (i + 1) ((i : Int) + 1) (by omega) (by omega) hNc
                have hw1 : IntKind.i64.wrap ((i : Int) + 1) = (i : Int) + 1 := by simp only [IntKind.wrap_i64]; omega
                have HA1 := Aside0.mk hA1
                have HA2 := Aside0.mk hA2
                clear hA1 hA2
                go_region_held3 (fun w' => w'.cell? ⟨g, 0, none⟩ = some (.slice (some ⟨gr, 0, none⟩) N c)) (first | exact cS | exact hg8.cell (by assumption) (fun e => nG (by injection e with e; exact e.symm))) ((refine step_copy2 (by rfl) (.tmp 78) (.tmp 85) 82 82 (by rfl) 71 Try.underlying82 (by kernel_rfl) A1 A2 (N - i) (c - i) (N - (i + 1)) (c - (i + 1)) (by rfl) (by rfl) gr (i * 2) (N - (i + 1)) cur7 71 HS7.out.drew.rb (cl (L1.drop (i + 1))) (by show _ = min _ _; omega) (by rw [cl_length, List.length_drop, HLL.out]) (fun h => ⟨HA1.out (by omega), _, HA2.out (by omega), HS7.out.drew.cells (i + 1) _ (.inl (cl_drop L1 (i + 1)))⟩) (by rw [cl_length, List.length_drop, HLL.out, HS7.out.cs]; omega) (cl_one _) ?_; intro w8 hw8 hg8))
                go_wp2_with fail
                have gb8 := blk_grown HS7.out.drew.gb hg8 (fun e => nG (by injection e with e; exact e.symm))
                rw [HLL.out] at gb8
                have HG8 := Aside0.mk gb8
                have cS8 := (blk_cell gb8 0).trans rfl
                have fS8 := blk_frozen gb8 0
                have HW8 := Aside0.mk hw8
                have HGR8 := Aside0.mk hg8
                obtain ⟨n1, hn1⟩ : ∃ n1, n1 = N - 1 := ⟨_, rfl⟩
                have k2 : IntKind.i64.wrap ((N : Int) - 1) = (n1 : Int) := by simp only [IntKind.wrap_i64]; omega
                have k3 : (n1 : Int) ≤ (c : Int) := by omega
                have k4 : (0 : Int) ≤ (n1 : Int) := by omega
                have HN1 := Aside0.mk hn1
                clear hn1 gb8 hw8 hg8 cS hr1 hr2 hw1
                go_region
                go_wp2_with fail
                go_meet
                have hA : addL L b l = L1.take i ++ L1.drop (i + 1) := by
                  have e1 : L1.take i = L.take m ++ [⟨(getL L m).f0, y.f1⟩] := by
                    rw [HL1.out, List.take_append, List.length_take, Nat.min_eq_left (by omega), List.take_of_length_le (by rw [List.length_take]; omega), show i - m = 1 by have := HM.out; omega]
                    rfl
                  have e2 : L1.drop (i + 1) = L.drop (i + 1) := by
                    rw [HL1.out, List.drop_append, List.drop_eq_nil_of_le (by rw [List.length_take]; omega), List.length_take, Nat.min_eq_left (by omega), show i + 1 - m = 1 + 1 by have := HM.out; omega, List.drop_succ_cons, List.drop_drop, show m + 1 + 1 = i + 1 by have := HM.out; omega]
                    rfl
                  unfold addL
                  rw [if_pos HUP.out.symm, if_pos HDN.out.symm, ← HI.out, ← HM.out, ← HY.out, e1, e2]
                  simp
                have HST := (HS7.out.drew.struck i (by rw [HLL.out]; omega) HW8.out HGR8.out).drew
                rw [HLL.out, ← hA] at HST
                rw [HN1.out]
                refine ⟨gr, c, _, ⟨HST⟩, ⟨?_⟩, ⟨?_⟩⟩
                · have h1 := ((below_drew1 HC7.out).grown HGR8.out (Nat.le_trans hbw HC7.out.size) (fun k e => by injection e with e; rw [← e]; exact HS6.out.r0))
                  exact below_drew1 (h1.setCell HS6.out.g0 _)
                · exact blk_drew (blk_far (blk_grown (blk_drew HX7.out) HGR8.out (fun e => nX (by injection e with e; exact e.symm))) (Ne.symm nGX) _)
            | false =>
              as_aux_lemma =>
                have cY0 := HS6.out.cell0 i hiL
                have fY0 := HS6.out.frozR (i * 2)
                go_wp2_with fail
                go_region_held3 (fun w' => w'.cell? ⟨g, 0, none⟩ = some (.slice (some ⟨gr, 0, none⟩) N c) ∧ w'.cell? ⟨w.heap.size, 0, none⟩ = some (.int .u64 b)) (go_keep) (fail)
                go_wp2_with fail
                go_meet
                have hA : addL L b l = L.take i ++ ⟨b, (getL L i).f1⟩ :: L.drop (i + 1) := by
                  unfold addL
                  rw [if_pos HUP.out.symm, if_neg (by rw [← HDN.out]; decide), ← HI.out]
                refine ⟨gr, c, _, ⟨(HS6.out.setR (i * 2) b (L' := addL L b l) ?_ ?_).drew⟩, ⟨below_drew1 (HC6.out.setCell HS6.out.r0 _)⟩, ⟨blk_drew (blk_far HX6.out (Ne.symm nX) _)⟩⟩
                · rw [hA]; simp; omega
                · rw [hA]; exact cl_set0 L i hiL b
          | false =>
            cases dn with
            | true =>
              as_aux_lemma =>
                have hi0 := hiD rfl
                obtain ⟨m, hm⟩ : ∃ m, m = i - 1 := ⟨_, rfl⟩
                have j0 : (0 : Int) ≤ (m : Int) := by omega
                have j1 : (m : Int) < (N : Int) := by omega
                have j2 : IntKind.i64.wrap ((i : Int) - 1) = (m : Int) := by simp only [IntKind.wrap_i64]; omega
                have hmL : m < L.length := by have := HN.out; omega
                have HM := Aside0.mk hm
                have cM1 := HS6.out.cell1 m hmL
                have fM1 := HS6.out.frozR (m * 2 + 1)
                have hmi : i = m + 1 := by omega
                have HMI := Aside0.mk hmi
                clear hm hmi
                go_wp2_with fail
                go_region_held3 (fun w' => w'.cell? ⟨g, 0, none⟩ = some (.slice (some ⟨gr, 0, none⟩) N c) ∧ w'.cell? ⟨w.heap.size, 1, none⟩ = some (.int .u64 l)) (go_keep) (fail)
                go_wp2_with fail
                go_meet
                have hA : addL L b l = L.take m ++ ⟨(getL L m).f0, l⟩ :: L.drop (m + 1) := by
                  unfold addL
                  rw [if_neg (by rw [← HUP.out]; decide), if_pos HDN.out.symm, ← HI.out, ← HM.out, HMI.out]
                refine ⟨gr, c, _, ⟨(HS6.out.setR (m * 2 + 1) l (L' := addL L b l) ?_ ?_).drew⟩, ⟨below_drew1 (HC6.out.setCell HS6.out.r0 _)⟩, ⟨blk_drew (blk_far HX6.out (Ne.symm nX) _)⟩⟩
                · rw [hA]; simp; omega
                · rw [hA]; exact cl_set1 L m hmL l
            | false =>
              as_aux_lemma =>
                have hsN : IntKind.i64.wrap ((N : Int) + 1) = (N : Int) + 1 := by simp only [IntKind.wrap_i64]; omega
                have hlc : N ≤ c := by have := HS6.out.lc; have := HN.out; omega
                have hcm := HS6.out.cm
                go_wp2_with fail
                go_quiet (fail)
                go_upto_if 133 with fail
                have HS14 := Aside0.mk (HS6.out.below (pw_below_drewN (Below.refl _ _) nq))
                have HC14 := Aside0.mk (pw_below_drewN HC6.out nq)
                have HX14 := Aside0.mk (blk_drewN HX6.out nq)
                generalize wc.drewN nq = w14 at HS14 HC14 HX14 ⊢
                go_cut [] (fun wx => ∃ h c' cur', Aside0 (h ≠ w.heap.size) ∧ Aside0 (Hole wx base g h c' cur' L i (sumL L)) ∧ Aside0 (Below base w wx) ∧ Aside0 (wx.heap[w.heap.size]? = some (.cells #[.int .u64 b, .int .u64 l] 71 (0, 0))))
                case first => as_aux_lemma =>
                  by_cases hgrow : c < N + 1
                  · skip
                    as_aux_lemma =>
                      have hd1 : decide ((c : Int) < (N : Int) + 1) = true := decide_eq_true (by omega)
                      have hcN : c = N := by omega
                      have HCN := Aside0.mk hcN
                      have hc6 : c ≤ 600 := by omega
                      obtain ⟨Z, hZ, hmk⟩ := make82 N c (by omega) (by omega)
                      have hZl : Z.toList.length = c * 2 * 2 := hZ
                      clear hcN
                      have hh0 : g < w14.heap.size := blk_lt HS14.out.gb
                      have hh1 : gr < w14.heap.size := blk_lt HS14.out.rb
                      have hh2 : w.heap.size < w14.heap.size := blk_lt HX14.out
                      clear cS cX0 cX1
                      have cS14 := HS14.out.cellS
                      rw [← HN.out] at cS14
                      have fS14 := HS14.out.frozS 0
                      have cS15 := pw_cell_below (below_alloc (Below.refl w14.heap.size w14) (.cells Z 71)) cS14
                      have fS15 := blk_frozen (blk_alloc HS14.out.gb (.cells Z 71)) 0
                      go_upto_region 17 with fail
                      have gb16 : ((w14.setCell ⟨g, 0, none⟩ (.slice (some ⟨w14.heap.size, 0, none⟩) (N + 1) (c * 2))).alloc (.cells Z 71)).heap[g]? = some (.cells #[.slice (some ⟨w14.heap.size, 0, none⟩) (N + 1) (c * 2), .int .u64 (sumL L)] 84 (0, 0)) :=
                        blk_alloc (by simpa using blk_set HS14.out.gb 0 (.slice (some ⟨w14.heap.size, 0, none⟩) (N + 1) (c * 2))) (.cells Z 71)
                      have hb16 : ((w14.setCell ⟨g, 0, none⟩ (.slice (some ⟨w14.heap.size, 0, none⟩) (N + 1) (c * 2))).alloc (.cells Z 71)).heap[w14.heap.size]? = some (.cells Z 71 (0, 0)) := by
                        have h1 := blk_new (w14.setCell ⟨g, 0, none⟩ (.slice (some ⟨w14.heap.size, 0, none⟩) (N + 1) (c * 2))) (.cells Z 71)
                        rwa [show (w14.setCell ⟨g, 0, none⟩ (.slice (some ⟨w14.heap.size, 0, none⟩) (N + 1) (c * 2))).heap.size = w14.heap.size by simp [World.setCell]] at h1
                      have rb16 : ((w14.setCell ⟨g, 0, none⟩ (.slice (some ⟨w14.heap.size, 0, none⟩) (N + 1) (c * 2))).alloc (.cells Z 71)).heap[gr]? = some (.cells cur 71 (0, 0)) := blk_alloc (blk_far HS14.out.rb nG _) _
                      have xb16 : ((w14.setCell ⟨g, 0, none⟩ (.slice (some ⟨w14.heap.size, 0, none⟩) (N + 1) (c * 2))).alloc (.cells Z 71)).heap[w.heap.size]? = some (.cells #[.int .u64 b, .int .u64 l] 71 (0, 0)) := blk_alloc (blk_far HX14.out (Ne.symm nGX) _) _
                      have hc15 := HC14.out.setCell (p := ⟨g, 0, none⟩) HS14.out.g0 (.slice (some ⟨w14.heap.size, 0, none⟩) (N + 1) (c * 2))
                      have hc16 : Below base w ((w14.setCell ⟨g, 0, none⟩ (.slice (some ⟨w14.heap.size, 0, none⟩) (N + 1) (c * 2))).alloc (.cells Z 71)) := hc15.alloc (Nat.le_trans hbw hc15.size) _
                      generalize ((w14.setCell ⟨g, 0, none⟩ (.slice (some ⟨w14.heap.size, 0, none⟩) (N + 1) (c * 2))).alloc (.cells Z 71)) = w16 at gb16 hb16 rb16 xb16 hc16 ⊢
                      obtain ⟨h, hh⟩ : ∃ h, h = w14.heap.size := ⟨_, rfl⟩
                      rw [← hh] at gb16 hb16 hh0 hh1 hh2
                      rw [← hh]
                      have hbh : base ≤ h := by omega
                      clear hh cS14 fS14 cS15 fS15 hmk hc15
                      have cS16 : w16.drew.cell? ⟨g, 0, none⟩ = some (.slice (some ⟨h, 0, none⟩) (N + 1) (c * 2)) := blk_cell (blk_drew gb16) 0
                      have GB16 := Aside0.mk (blk_drew gb16)
                      have HB16 := Aside0.mk (blk_drew hb16)
                      have RB16 := Aside0.mk (blk_drew rb16)
                      have XB16 := Aside0.mk (blk_drew xb16)
                      have HC16 := Aside0.mk (below_drew1 hc16)
                      have hic : (i : Int) ≤ (c : Int) := by omega
                      have hic2 : (i : Int) ≤ ((c * 2 : Nat) : Int) := by omega
                      have hic3 : (i : Int) ≤ (c : Int) * 2 := by omega
                      have hhg : h ≠ g := Nat.ne_of_gt hh0
                      have hhr : h ≠ gr := Nat.ne_of_gt hh1
                      have hhx : h ≠ w.heap.size := Nat.ne_of_gt hh2
                      clear gb16 hb16 rb16 xb16 hc16
                      go_region_held3 (fun w' => w'.cell? ⟨g, 0, none⟩ = some (.slice (some ⟨h, 0, none⟩) (N + 1) (c * 2))) (first | exact cS16 | exact hg17.cell (by assumption) (fun e => hhg (by injection e with e; exact e.symm))) ((refine step_copy2 (by rfl) (.tmp 153) (.tmp 156) 82 82 (by rfl) 71 Try.underlying82 (by kernel_rfl) (some ⟨h, 0, none⟩) (some ⟨gr, 0, none⟩) i (c * 2) i c (by rfl) (by rfl) h 0 i Z 71 HB16.out (cl (L.take i)) (by show _ = min _ _; omega) (by rw [cl_length, List.length_take]; have := HN.out; omega) (fun _ => ⟨rfl, _, rfl, cells_of (k := 0) RB16.out HS14.out.ct (by rw [Nat.zero_mul, List.drop_zero, ← cl_append, List.take_append_drop])⟩) (by rw [cl_length, List.length_take, hZ]; omega) (cl_one _) ?_; intro w17 hw17 hg17))
                      go_wp2_with fail
                      have GB17 := Aside0.mk (blk_drew (blk_grown GB16.out hg17 (fun e => hhg (by injection e with e; exact e.symm))))
                      have HB17 := Aside0.mk (blk_drew hw17)
                      have RB17 := Aside0.mk (blk_drew (blk_grown RB16.out hg17 (fun e => hhr (by injection e with e; exact e.symm))))
                      have XB17 := Aside0.mk (blk_drew (blk_grown XB16.out hg17 (fun e => hhx (by injection e with e; exact e.symm))))
                      have HC17 := Aside0.mk (below_drew1 (HC16.out.grown hg17 (Nat.le_trans hbw HC16.out.size) (fun k e => by injection e with e; rw [← e]; exact hbh)))
                      clear cS16
                      have cS17 : w17.drew.cell? ⟨g, 0, none⟩ = some (.slice (some ⟨h, 0, none⟩) (N + 1) (c * 2)) := blk_cell GB17.out 0
                      obtain ⟨A1, hA1, hr1⟩ := slice_from h (N + 1) (c * 2) (i + 1) ((i : Int) + 1) (by omega) (by omega) (by omega)
                      obtain ⟨A2, hA2, hr2⟩ := slice_from gr N c i (i : Int) rfl (by omega) (by omega)
                      have hw1 : IntKind.i64.wrap ((i : Int) + 1) = (i : Int) + 1 := by simp only [IntKind.wrap_i64]; omega
                      have HA1 := Aside0.mk hA1
                      have HA2 := Aside0.mk hA2
                      clear hA1 hA2
                      go_region_held3 (fun w' => w'.cell? ⟨g, 0, none⟩ = some (.slice (some ⟨h, 0, none⟩) (N + 1) (c * 2))) (first | exact cS17 | exact hg18.cell (by assumption) (fun e => hhg (by injection e with e; exact e.symm))) ((refine step_copy2 (by rfl) (.tmp 164) (.tmp 167) 82 82 (by rfl) 71 Try.underlying82 (by kernel_rfl) A1 A2 (N - i) (c * 2 - (i + 1)) (N - i) (c - i) (by rfl) (by rfl) h ((i + 1) * 2) (N - i) (splice Z.toList 0 (cl (L.take i))).toArray 71 HB17.out (cl (L.drop i)) (by show _ = min _ _; omega) (by rw [cl_length, List.length_drop, HN.out]) (fun _ => ⟨HA1.out (by omega), _, HA2.out (by omega), cells_of (k := i) (R := []) RB17.out HS14.out.ct ((cl_drop L i).trans (List.append_nil _).symm)⟩) (by rw [cl_length, List.length_drop, List.size_toArray, length_splice _ _ _ (by rw [cl_length, List.length_take, hZl]; have := HN.out; omega), hZl]; have := HN.out; omega) (cl_one _) ?_; intro w18 hw18 hg18))
                      go_wp2_with fail
                      go_meet
                      have gb18 := (blk_grown GB17.out hg18 (fun e => hhg (by injection e with e; exact e.symm)))
                      rw [HN.out] at gb18
                      refine ⟨h, c * 2, _, ⟨hhx⟩, ⟨hole_new i (by have := HN.out; omega) gb18 hw18 HS14.out.g0 hbh (by have := HN.out; omega) (by omega) hZ⟩, ⟨?_⟩, ⟨?_⟩⟩
                      · exact (HC17.out.grown hg18 (Nat.le_trans hbw HC17.out.size) (fun k e => by injection e with e; rw [← e]; exact hbh))
                      · exact (blk_grown XB17.out hg18 (fun e => hhx (by injection e with e; exact e.symm)))
                  · skip
                    as_aux_lemma =>
                      have hd1 : decide ((c : Int) < (N : Int) + 1) = false := decide_eq_false (by omega)
                      have hcN : ((N : Int) + 1) ≤ (c : Int) := by omega
                      clear cS cX0 cX1
                      have cS := HS14.out.cellS
                      rw [← HN.out] at cS
                      have fS := HS14.out.frozS 0
                      go_wp2_with fail
                      go_region
                      have gb19 : (w14.setCell ⟨g, 0, none⟩ (.slice (some ⟨gr, 0, none⟩) (N + 1) c)).drew.heap[g]? = some (.cells #[.slice (some ⟨gr, 0, none⟩) (N + 1) c, .int .u64 (sumL L)] 84 (0, 0)) :=
                        blk_drew (by simpa using blk_set HS14.out.gb 0 (.slice (some ⟨gr, 0, none⟩) (N + 1) c))
                      have rb19 : (w14.setCell ⟨g, 0, none⟩ (.slice (some ⟨gr, 0, none⟩) (N + 1) c)).drew.heap[gr]? = some (.cells cur 71 (0, 0)) := blk_drew (blk_far HS14.out.rb nG _)
                      have xb19 : (w14.setCell ⟨g, 0, none⟩ (.slice (some ⟨gr, 0, none⟩) (N + 1) c)).drew.heap[w.heap.size]? = some (.cells #[.int .u64 b, .int .u64 l] 71 (0, 0)) := blk_drew (blk_far HX14.out (Ne.symm nGX) _)
                      have hc19 : Below base w (w14.setCell ⟨g, 0, none⟩ (.slice (some ⟨gr, 0, none⟩) (N + 1) c)).drew := below_drew1 (HC14.out.setCell HS14.out.g0 _)
                      generalize (w14.setCell ⟨g, 0, none⟩ (.slice (some ⟨gr, 0, none⟩) (N + 1) c)).drew = w19 at gb19 rb19 xb19 hc19 ⊢
                      have hgG : w19.drew.heap[g]? = _ := blk_drew gb19
                      have cS19 : w19.cell? ⟨g, 0, none⟩ = some (.slice (some ⟨gr, 0, none⟩) (N + 1) c) := blk_cell gb19 0
                      have cS20 : w19.drew.cell? ⟨g, 0, none⟩ = some (.slice (some ⟨gr, 0, none⟩) (N + 1) c) := blk_cell hgG 0
                      have GB19 := Aside0.mk gb19
                      have RB19 := Aside0.mk rb19
                      have XB19 := Aside0.mk xb19
                      have HC19 := Aside0.mk hc19
                      have HCS := Aside0.mk HS14.out.cs
                      clear gb19 rb19 xb19 hc19 hgG cS fS
                      obtain ⟨A1, hA1, hr1⟩ := slice_from gr (N + 1) c (i + 1) ((i : Int) + 1) (by omega) (by omega) (by omega)
                      obtain ⟨A2, hA2, hr2⟩ := slice_from gr (N + 1) c i (i : Int) rfl (by omega) (by omega)
                      have hw1 : IntKind.i64.wrap ((i : Int) + 1) = (i : Int) + 1 := by simp only [IntKind.wrap_i64]; omega
                      have HA1 := Aside0.mk hA1
                      have HA2 := Aside0.mk hA2
                      clear hA1 hA2
                      go_wp2_with fail
                      go_region_held3 (fun w' => w'.cell? ⟨g, 0, none⟩ = some (.slice (some ⟨gr, 0, none⟩) (N + 1) c)) (first | exact cS20 | exact cS19 | exact hg20.cell (by assumption) (fun e => nG (by injection e with e; exact e.symm))) ((refine step_copy2 (by rfl) (.tmp 189) (.tmp 195) 82 82 (by rfl) 71 Try.underlying82 (by kernel_rfl) A1 A2 (N - i) (c - (i + 1)) (N + 1 - i) (c - i) (by rfl) (by rfl) gr ((i + 1) * 2) (N - i) cur 71 (blk_drew RB19.out) (cl (L.drop i)) (by show _ = min _ _; omega) (by rw [cl_length, List.length_drop, HN.out]) (fun _ => ⟨HA1.out (by omega), _, HA2.out (by omega), cells_of (k := i) (R := []) (blk_drew RB19.out) HS14.out.ct ((cl_drop L i).trans (List.append_nil _).symm)⟩) (by rw [cl_length, List.length_drop, HCS.out]; have := HN.out; omega) (cl_one _) ?_; intro w20 hw20 hg20))
                      go_wp2_with fail
                      go_meet
                      have gb20 := blk_drew GB19.out
                      rw [HN.out] at gb20
                      refine ⟨gr, c, _, ⟨nX⟩, ⟨HS14.out.room i (by have := HN.out; omega) (by have := HN.out; omega) gb20 hw20 hg20 (Ne.symm nG)⟩, ⟨?_⟩, ⟨?_⟩⟩
                      · exact ((below_drew1 HC19.out).grown hg20 (Nat.le_trans hbw HC19.out.size) (fun k e => by injection e with e; rw [← e]; exact HS14.out.r0))
                      · exact (blk_grown (blk_drew XB19.out) hg20 (fun e => nX (by injection e with e; exact e.symm)))
                case rest =>
                  as_aux_lemma =>
                    obtain ⟨h, c', cur', HNX, HH, HB7, HX7⟩ := hcut
                    have gb := HH.out.gb
                    rw [← HN.out] at gb
                    have cG : wc.cell? ⟨g, 0, none⟩ = some (.slice (some ⟨h, 0, none⟩) (N + 1) c') := blk_cell gb 0
                    have cY0 : wc.cell? ⟨w.heap.size, 0, none⟩ = some (.int .u64 b) := blk_cell HX7.out 0
                    have cY1 : wc.cell? ⟨w.heap.size, 1, none⟩ = some (.int .u64 l) := blk_cell HX7.out 1
                    have nH : h ≠ g := Ne.symm HH.out.ne
                    have nHX := HNX.out
                    have j1 : (i : Int) < (N : Int) + 1 := by omega
                    have hsz : i * 2 + 1 < cur'.size := by have h1 := HH.out.cs; have h2 := HH.out.il; have h3 := HH.out.lc; omega
                    obtain ⟨u0, hu0⟩ : ∃ u0, wc.cell? ⟨h, i * 2, none⟩ = some u0 := ⟨_, (blk_cell HH.out.rb (i * 2)).trans (Array.getElem?_eq_getElem (by omega))⟩
                    obtain ⟨u1, hu1⟩ : ∃ u1, wc.cell? ⟨h, i * 2 + 1, none⟩ = some u1 := ⟨_, (blk_cell HH.out.rb (i * 2 + 1)).trans (Array.getElem?_eq_getElem hsz)⟩
                    have f0 := blk_frozen HH.out.rb (i * 2)
                    have f1 := blk_frozen HH.out.rb (i * 2 + 1)
                    clear gb hsz cS cX0 cX1
                    go_wp2_with fail
                    go_region_held3 (fun w' => w'.cell? ⟨g, 0, none⟩ = some (.slice (some ⟨h, 0, none⟩) (N + 1) c') ∧ w'.cell? ⟨w.heap.size, 0, none⟩ = some (.int .u64 b) ∧ w'.cell? ⟨w.heap.size, 1, none⟩ = some (.int .u64 l)) (go_keep) (fail)
                    go_wp2_with fail
                    go_meet
                    have hA : addL L b l = L.take i ++ ⟨b, l⟩ :: L.drop i := by
                      unfold addL
                      rw [if_neg (by rw [← HUP.out]; decide), if_neg (by rw [← HDN.out]; decide), ← HI.out]
                    obtain ⟨cur2, HST⟩ := HH.out.fill b l
                    rw [← hA] at HST
                    exact ⟨h, c', cur2, ⟨HST.drew⟩, ⟨below_drew1 ((HB7.out.setCell HH.out.r0 _).setCell HH.out.r0 _)⟩, ⟨blk_drew (blk_far (blk_far HX7.out (Ne.symm nHX) _) (Ne.symm nHX) _)⟩⟩
        case rest =>
          as_aux_lemma =>
            obtain ⟨gr', c', cur', HS7, HB7, HX7⟩ := hcut
            obtain ⟨s, hs⟩ : ∃ s, s = sumL L := ⟨_, rfl⟩
            have hsb := fitL_sum HF.out
            rw [← hs] at HS7 hsb
            have HSM := Aside0.mk hs
            obtain ⟨hs0, hs1⟩ := hsb
            have hsum : IntKind.u64.wrap (s + (l - b)) = s + (l - b) := by simp only [IntKind.wrap_u64]; omega
            have HS7' := Aside0.mk HS7.out.drew
            have cT := HS7.out.cellT
            have fT := HS7.out.frozS 1
            have cX0 := (blk_cell HX7.out 0).trans rfl
            have cX1 := (blk_cell HX7.out 1).trans rfl
            clear hs
            go_wp2_with fail
            go_region_with ((go_at_call 38; refine (size_c _ _ _ b0 bl l1).mono ?_; rintro e w8 ⟨rfl, hb8⟩; have HS8 := Aside0.mk (HS7'.out.below hb8); have cT8 := HS8.out.cellT; have fT8 := HS8.out.frozS 1))
            all_goals
              have HB8 := Aside0.mk (HB7.out.trans ((below_drew1 (Below.refl _ _)).trans (hb8.mono (Nat.le_of_lt (Nat.lt_of_le_of_lt HS7.out.g0 (blk_lt HS7.out.gb))))))
              go_wp2_with fail
              go_end0
              refine ⟨gr', c', cur', rfl, ?_, HB8.out.setCell HS7.out.g0 _⟩
              have := HS8.out.setTot (s + (l - b))
              rw [sumL_addL, ← HSM.out]
              exact this
end Go.Proofs.Yticjdbdhnfmidaa.K
