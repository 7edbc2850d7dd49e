/-
  The walk of findSucc: on a fitting list and an address from 0 to 1000 it returns the first index whose base is above the address.
-/
import Derived.Test.YticjdbdhnfmidaaH2
namespace Go.Proofs.Yticjdbdhnfmidaa.K
open Go.RowKit Go.Proofs.YticjdbdhnfmidaaW.PrintWords Go.Proofs.YticjdbdhnfmidaaW.PrintLast Go.Proofs.YticjdbdhnfmidaaW.PrintMore

theorem succL_le (L : List S56) (a : Int) : succL L a ≤ L.length := by
  induction L with
  | nil => exact Nat.le_refl _
  | cons x r ih =>
    simp only [succL, List.length_cons]
    split <;> omega
theorem succL_lt (L : List S56) (a : Int) : ∀ j, j < succL L a → (getL L j).f0 ≤ a := by
  induction L with
  | nil => intro j h; simp [succL] at h
  | cons x r ih =>
    intro j h
    simp only [succL] at h
    split at h
    · omega
    · cases j with
      | zero => simp only [getL, List.getD_cons_zero]; omega
      | succ j => simpa [getL] using ih j (by omega)
theorem succL_at (L : List S56) (a : Int) : succL L a < L.length → a < (getL L (succL L a)).f0 := by
  induction L with
  | nil => intro h; simp at h
  | cons x r ih =>
    intro h
    simp only [succL] at h ⊢
    split at h
    · rename_i hx
      simp only [if_pos hx, getL, List.getD_cons_zero]; exact hx
    · rename_i hx
      simp only [if_neg hx, getL, List.getD_cons_succ]
      exact ih (by simpa using h)
theorem okL_lo {lo : Int} {L : List S56} (h : okL lo L = true) : ∀ i, i < L.length → lo < (getL L i).f0 := fun i hi => (okL_get L lo h i hi).1
theorem okL_gap : ∀ (L : List S56) (lo : Int), okL lo L = true → ∀ i j, i < j → j < L.length → (getL L i).f1 < (getL L j).f0 := by
  intro L
  induction L with
  | nil => intro lo _ i j _ h; simp at h
  | cons x r ih =>
    intro lo h i j hij hj
    simp only [okL, Bool.and_eq_true, decide_eq_true_eq] at h
    cases j with
    | zero => omega
    | succ j =>
      cases i with
      | zero => simpa [getL] using okL_lo h.2.2.2 j (by simpa using hj)
      | succ i => simpa [getL] using ih x.f1 h.2.2.2 i j (by omega) (by simpa using hj)
theorem fitL_gap {L : List S56} (h : fitL L = true) (i j : Nat) (hij : i < j) (hj : j < L.length) : (getL L i).f1 < (getL L j).f0 := by
  simp only [fitL, Bool.and_eq_true] at h
  exact okL_gap L (-1) h.1 i j hij hj
theorem succL_up {L : List S56} {a : Int} {i : Nat} (h : a < (getL L i).f0) : succL L a ≤ i := by
  by_cases hc : i < succL L a
  · have := succL_lt L a i hc; omega
  · omega
theorem succL_down {L : List S56} (hf : fitL L = true) {a : Int} {i : Nat} (hi : i < L.length) (h : (getL L i).f0 ≤ a) : i + 1 ≤ succL L a := by
  by_cases hc : succL L a ≤ i
  · have h1 := succL_at L a (by omega)
    by_cases e : succL L a = i
    · rw [e] at h1; omega
    · have h2 := fitL_gap hf (succL L a) i (by omega) hi
      have h3 := fitL_get hf (succL L a) (by omega)
      omega
  · omega
theorem succL_in {L : List S56} (hf : fitL L = true) {a : Int} {i : Nat} (hi : i < L.length) (h : hasR (getL L i) a = true) : succL L a = i + 1 := by
  simp only [hasR, Bool.and_eq_true, decide_eq_true_eq] at h
  have h1 := succL_down hf hi h.1
  by_cases hc : i + 1 < succL L a
  · have h2 := succL_lt L a (i + 1) hc
    have h3 := succL_le L a
    have h4 := fitL_gap hf i (i + 1) (by omega) (by omega)
    omega
  · omega

set_option maxHeartbeats 2000000 in
theorem findSucc_c {w : World} {base g gr c : Nat} {cur : Array Value} {L : List S56} {tot : Int} (hs : St w base g gr c cur L tot) (hf : fitL L = true) (a : Int) (a0 : 0 ≤ a) (a1 : a ≤ 1000) :
    Calls Try.prog 39 #[.pointer (some ⟨g, 0, none⟩), .int .u64 a] w fun e w' => e = .returned (.int .i64 (succL L a : Nat)) ∧ Below w.heap.size w w' := by
  have hlen := fitL_len hf
  have hle := succL_le L a
  have HF := Aside0.mk hf
  clear hf
  go_enter Try.func39, Try.ntmps39
  go_wp2
  have hb1 : Below w.heap.size w (w.alloc (.cells #[.int .u64 a] 69)) := (Below.refl _ _).alloc (Nat.le_refl _) _
  have hx1 : (w.alloc (.cells #[.int .u64 a] 69)).heap[w.heap.size]? = some (.cells #[.int .u64 a] 69 (0, 0)) := blk_new _ _
  generalize (w.alloc (.cells #[.int .u64 a] 69)) = w1 at hb1 hx1 ⊢
  have HS := Aside0.mk (hs.below hb1)
  have HX := Aside0.mk hx1
  have HB := Aside0.mk hb1
  have cS := HS.out.cellS
  clear hs hb1 hx1
  go_quiet (fail)
  go_wp2
  go_loopw [6, 7] (fun vb vt wr => ∃ b t : Nat, vb = .int .i64 b ∧ vt = .int .i64 t ∧ b ≤ succL L a ∧ succL L a ≤ t ∧ t ≤ L.length ∧ Aside0 (Below w1.heap.size w1 wr)) (fun vb vt _ => (intOf vt).toNat - (intOf vb).toNat)
  case atStart => exact ⟨0, L.length, rfl, rfl, by omega, by omega, by omega, ⟨⟨rfl, rfl, rfl, Nat.le_refl _, fun _ _ => rfl⟩⟩⟩
  case round =>
    clear cS
    obtain ⟨b, t, rfl, rfl, hb, ht, htl, HW⟩ := hrel
    by_cases hc : 8 < t - b
    · go_wp2
      obtain ⟨i, ei⟩ : ∃ i : Nat, ((b : Int) + (t : Int)) / 2 = (i : Int) := ⟨(b + t) / 2, by omega⟩
      have hi1 : b ≤ i := by omega
      have hi2 : i < t := by omega
      have hi3 : i < L.length := by omega
      rw [ei]
      clear ei
      have hfi := fitL_get HF.out i hi3
      obtain ⟨f0, f1, f2⟩ := hfi
      have cS := (HS.out.below HW.out).cellS
      have c0 := (HS.out.below HW.out).cell0 i hi3
      have c1 := (HS.out.below HW.out).cell1 i hi3
      have cB : wr.cell? ⟨w.heap.size, 0, none⟩ = some (.int .u64 a) := (blk_cell (blk_below HX.out HW.out) 0).trans rfl
      by_cases hh : hasR ⟨(getL L i).f0, (getL L i).f1⟩ a = true
      · have hres := succL_in HF.out hi3 hh
        have HR := Aside0.mk hres
        clear hres
        go_region_held3 (fun w' => w'.cell? ⟨g, 0, none⟩ = some (.slice (some ⟨gr, 0, none⟩) L.length c) ∧ w'.cell? ⟨gr, i * 2, none⟩ = some (.int .u64 (getL L i).f0) ∧ w'.cell? ⟨gr, i * 2 + 1, none⟩ = some (.int .u64 (getL L i).f1) ∧ w'.cell? ⟨w.heap.size, 0, none⟩ = some (.int .u64 a) ∧ Aside0 (Below w1.heap.size w1 w')) (first | exact ⟨cS, c0, c1, cB, ⟨below_drew1 HW.out⟩⟩ | exact ⟨pw_cell_below hb s0, pw_cell_below hb s1, pw_cell_below hb s2, pw_cell_below hb s3, ⟨below_step s4.out hb⟩⟩) (first | (go_at_call 40; (obtain ⟨s0, s1, s2, s3, s4⟩ := ‹_ ∧ _ ∧ _ ∧ _ ∧ _›); refine (addr_c _ _).mono ?_; rintro e w2 ⟨rfl, hb⟩) | (go_at_call 42; (obtain ⟨s0, s1, s2, s3, s4⟩ := ‹_ ∧ _ ∧ _ ∧ _ ∧ _›); refine (has_c _ _ _ _ (by omega) (by omega) (by omega) (by omega) (by omega) (by omega)).mono ?_; rintro e w2 ⟨rfl, hb⟩))
        go_wp2
        obtain ⟨s0, s1, s2, s3, s4⟩ := ‹_ ∧ _ ∧ _ ∧ _ ∧ _›
        go_ret
        exact ⟨by rw [HR.out]; rfl, below_step HB.out s4.out⟩
      · have hh' : hasR ⟨(getL L i).f0, (getL L i).f1⟩ a = false := by simpa using hh
        clear hh
        go_region_held3 (fun w' => w'.cell? ⟨g, 0, none⟩ = some (.slice (some ⟨gr, 0, none⟩) L.length c) ∧ w'.cell? ⟨gr, i * 2, none⟩ = some (.int .u64 (getL L i).f0) ∧ w'.cell? ⟨gr, i * 2 + 1, none⟩ = some (.int .u64 (getL L i).f1) ∧ w'.cell? ⟨w.heap.size, 0, none⟩ = some (.int .u64 a) ∧ Aside0 (Below w1.heap.size w1 w')) (first | exact ⟨cS, c0, c1, cB, ⟨below_drew1 HW.out⟩⟩ | exact ⟨pw_cell_below hb s0, pw_cell_below hb s1, pw_cell_below hb s2, pw_cell_below hb s3, ⟨below_step s4.out hb⟩⟩) (first | (go_at_call 40; (obtain ⟨s0, s1, s2, s3, s4⟩ := ‹_ ∧ _ ∧ _ ∧ _ ∧ _›); refine (addr_c _ _).mono ?_; rintro e w2 ⟨rfl, hb⟩) | (go_at_call 42; (obtain ⟨s0, s1, s2, s3, s4⟩ := ‹_ ∧ _ ∧ _ ∧ _ ∧ _›); refine (has_c _ _ _ _ (by omega) (by omega) (by omega) (by omega) (by omega) (by omega)).mono ?_; rintro e w2 ⟨rfl, hb⟩))
        go_wp2
        obtain ⟨s0, s1, s2, s3, s4⟩ := ‹_ ∧ _ ∧ _ ∧ _ ∧ _›
        by_cases hl : a < (getL L i).f0
        · have hlt : decide (a < (getL L i).f0) = true := decide_eq_true hl
          have hup := succL_up hl
          go_region_held3 (fun w' => w'.cell? ⟨g, 0, none⟩ = some (.slice (some ⟨gr, 0, none⟩) L.length c) ∧ w'.cell? ⟨gr, i * 2, none⟩ = some (.int .u64 (getL L i).f0) ∧ w'.cell? ⟨gr, i * 2 + 1, none⟩ = some (.int .u64 (getL L i).f1) ∧ w'.cell? ⟨w.heap.size, 0, none⟩ = some (.int .u64 a) ∧ Aside0 (Below w1.heap.size w1 w')) (first | exact ⟨s0, s1, s2, s3, ⟨below_drew1 s4.out⟩⟩ | exact ⟨pw_cell_below hb s0, pw_cell_below hb s1, pw_cell_below hb s2, pw_cell_below hb s3, ⟨below_step s4.out hb⟩⟩) (first | (go_at_call 45; (obtain ⟨s0, s1, s2, s3, s4⟩ := ‹_ ∧ _ ∧ _ ∧ _ ∧ _›); refine (less_c _ _ _ (by omega) (by omega) (by omega) (by omega)).mono ?_; rintro e w2 ⟨rfl, hb⟩))
          go_wp2
          obtain ⟨s0, s1, s2, s3, s4⟩ := ‹_ ∧ _ ∧ _ ∧ _ ∧ _›
          go_roundw
          case rel => exact ⟨b, i, rfl, rfl, by omega, by omega, by omega, s4⟩
          case measure => simp [intOf]; omega
        · have hlt : decide (a < (getL L i).f0) = false := decide_eq_false hl
          have hdn := succL_down HF.out hi3 (by omega : (getL L i).f0 ≤ a)
          go_region_held3 (fun w' => w'.cell? ⟨g, 0, none⟩ = some (.slice (some ⟨gr, 0, none⟩) L.length c) ∧ w'.cell? ⟨gr, i * 2, none⟩ = some (.int .u64 (getL L i).f0) ∧ w'.cell? ⟨gr, i * 2 + 1, none⟩ = some (.int .u64 (getL L i).f1) ∧ w'.cell? ⟨w.heap.size, 0, none⟩ = some (.int .u64 a) ∧ Aside0 (Below w1.heap.size w1 w')) (first | exact ⟨s0, s1, s2, s3, ⟨below_drew1 s4.out⟩⟩ | exact ⟨pw_cell_below hb s0, pw_cell_below hb s1, pw_cell_below hb s2, pw_cell_below hb s3, ⟨below_step s4.out hb⟩⟩) (first | (go_at_call 45; (obtain ⟨s0, s1, s2, s3, s4⟩ := ‹_ ∧ _ ∧ _ ∧ _ ∧ _›); refine (less_c _ _ _ (by omega) (by omega) (by omega) (by omega)).mono ?_; rintro e w2 ⟨rfl, hb⟩))
          go_wp2
          obtain ⟨s0, s1, s2, s3, s4⟩ := ‹_ ∧ _ ∧ _ ∧ _ ∧ _›
          go_roundw
          case rel => exact ⟨i + 1, t, by go_num, rfl, by omega, by omega, by omega, s4⟩
          case measure => simp [intOf]; omega
    · go_wp2
      go_loopw [9] (fun vj wj => ∃ j : Nat, vj = .int .i64 j ∧ j ≤ succL L a ∧ Aside0 (Below w1.heap.size w1 wj)) (fun vj _ => t - (intOf vj).toNat)
      case atStart => exact ⟨b, rfl, hb, HW⟩
      case round =>
        clear HW
        obtain ⟨j, rfl, hj, HW⟩ := hrel
        by_cases hjt : j < t
        · have hi3 : j < L.length := by omega
          have hfi := fitL_get HF.out j hi3
          obtain ⟨f0, f1, f2⟩ := hfi
          have cS := (HS.out.below HW.out).cellS
          have c0 := (HS.out.below HW.out).cell0 j hi3
          have c1 := (HS.out.below HW.out).cell1 j hi3
          have cB := (blk_cell (blk_below HX.out HW.out) 0).trans rfl
          go_wp2
          by_cases hl : a < (getL L j).f0
          · have hlt : decide (a < (getL L j).f0) = true := decide_eq_true hl
            have hup := succL_up hl
            have HR := Aside0.mk (show succL L a = j by omega)
            go_region_held3 (fun w' => w'.cell? ⟨g, 0, none⟩ = some (.slice (some ⟨gr, 0, none⟩) L.length c) ∧ w'.cell? ⟨gr, j * 2, none⟩ = some (.int .u64 (getL L j).f0) ∧ w'.cell? ⟨gr, j * 2 + 1, none⟩ = some (.int .u64 (getL L j).f1) ∧ w'.cell? ⟨w.heap.size, 0, none⟩ = some (.int .u64 a) ∧ Aside0 (Below w1.heap.size w1 w')) (first | exact ⟨cS, c0, c1, cB, ⟨below_drew1 HW.out⟩⟩ | exact ⟨pw_cell_below hb s0, pw_cell_below hb s1, pw_cell_below hb s2, pw_cell_below hb s3, ⟨below_step s4.out hb⟩⟩) (first | (go_at_call 45; (obtain ⟨s0, s1, s2, s3, s4⟩ := ‹_ ∧ _ ∧ _ ∧ _ ∧ _›); refine (less_c _ _ _ (by omega) (by omega) (by omega) (by omega)).mono ?_; rintro e w2 ⟨rfl, hb⟩))
            go_wp2
            obtain ⟨s0, s1, s2, s3, s4⟩ := ‹_ ∧ _ ∧ _ ∧ _ ∧ _›
            go_ret
            exact ⟨by rw [HR.out]; rfl, below_step HB.out s4.out⟩
          · have hlt : decide (a < (getL L j).f0) = false := decide_eq_false hl
            have hdn := succL_down HF.out hi3 (by omega : (getL L j).f0 ≤ a)
            go_region_held3 (fun w' => w'.cell? ⟨g, 0, none⟩ = some (.slice (some ⟨gr, 0, none⟩) L.length c) ∧ w'.cell? ⟨gr, j * 2, none⟩ = some (.int .u64 (getL L j).f0) ∧ w'.cell? ⟨gr, j * 2 + 1, none⟩ = some (.int .u64 (getL L j).f1) ∧ w'.cell? ⟨w.heap.size, 0, none⟩ = some (.int .u64 a) ∧ Aside0 (Below w1.heap.size w1 w')) (first | exact ⟨cS, c0, c1, cB, ⟨below_drew1 HW.out⟩⟩ | exact ⟨pw_cell_below hb s0, pw_cell_below hb s1, pw_cell_below hb s2, pw_cell_below hb s3, ⟨below_step s4.out hb⟩⟩) (first | (go_at_call 45; (obtain ⟨s0, s1, s2, s3, s4⟩ := ‹_ ∧ _ ∧ _ ∧ _ ∧ _›); refine (less_c _ _ _ (by omega) (by omega) (by omega) (by omega)).mono ?_; rintro e w2 ⟨rfl, hb⟩))
            go_wp2
            obtain ⟨s0, s1, s2, s3, s4⟩ := ‹_ ∧ _ ∧ _ ∧ _ ∧ _›
            go_roundw
            case rel => exact ⟨j + 1, by go_num, by omega, s4⟩
            case measure => simp [intOf]; omega
        · have HR := Aside0.mk (show succL L a = t by omega)
          go_wp2
          go_ret
          exact ⟨by rw [HR.out]; rfl, below_step HB.out HW.out⟩

end Go.Proofs.Yticjdbdhnfmidaa.K
