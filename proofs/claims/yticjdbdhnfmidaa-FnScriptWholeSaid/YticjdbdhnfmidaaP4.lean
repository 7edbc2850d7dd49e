/-
  What each operation does to a list and to its bits.
-/
import Derived.Test.YticjdbdhnfmidaaP3
import Derived.Test.YticjdbdhnfmidaaKF
import Derived.Test.YticjdbdhnfmidaaKG
namespace Go.Proofs.Yticjdbdhnfmidaa.Pure
open Go.RowKit Go.Proofs.Yticjdbdhnfmidaa.K Go.Proofs.YticjdbdhnfmidaaW.PrintWords

section
variable {L : List S56} {bs : List Bool}
theorem Rep.at_ (_h : Rep L bs) (i : Nat) (hi : bs.length ≤ i) : bs.getD i false = false := by
  simp [List.getD_eq_getElem?_getD, List.getElem?_eq_none hi]
theorem Rep.count (h : Rep L bs) (hl : bs.length = 600) : (cnt (fun j => bs.getD j false) bs.length : Int) = sumL L := by
  rw [sumL_cnt L (-1) h.ok (by omega)]
  have e1 : cnt (fun i => memL L i) 1000 = cnt (fun j => bs.getD j false) 1000 := cnt_congr _ (fun i _ => h.mem i)
  have e2 : cnt (fun j => bs.getD j false) 1000 = cnt (fun j => bs.getD j false) bs.length := cnt_more (fun i hi => h.at_ i hi) _ (by omega)
  rw [e1, e2]
theorem Rep.len (h : Rep L bs) : L.length ≤ 500 := by
  have := okL_le L (-1) h.ok (by omega)
  omega
theorem Rep.lt (h : Rep L bs) (x : S56) (hx : x ∈ L) : 0 ≤ x.f0 ∧ x.f0 < x.f1 ∧ x.f1 ≤ bs.length := by
  obtain ⟨h1, h2, h3⟩ := okL_all L _ h.ok x hx
  refine ⟨by omega, h2, ?_⟩
  obtain ⟨q, hq⟩ : ∃ q : Nat, x.f1 - 1 = (q : Int) := Int.eq_ofNat_of_zero_le (by omega)
  have h4 := h.mem q
  rw [(memL_iff L (q : Int)).2 ⟨x, hx, by omega, by omega⟩] at h4
  by_cases h5 : q < bs.length
  · omega
  · rw [h.at_ q (by omega)] at h4
    exact absurd h4 (by decide)
theorem Rep.add (h : Rep L bs) (b n : Nat) (n0 : 1 ≤ n) (hb : b + n ≤ bs.length) (hl : bs.length ≤ 1000) (hf : ∀ j, b ≤ j → j < b + n → bs.getD j false = false) :
    Rep (addL L (b : Int) ((b : Int) + (n : Int))) (putB bs b n true) := by
  obtain ⟨h1, h2⟩ := add_spec h.ok (b : Int) ((b : Int) + (n : Int)) (by omega) (by omega) (by omega) (fun a ha0 ha1 => by
    obtain ⟨q, rfl⟩ := Int.eq_ofNat_of_zero_le (show 0 ≤ a by omega)
    rw [h.mem]
    exact hf q (by omega) (by omega))
  refine ⟨h1, fun i => ?_⟩
  rw [h2, h.mem, putB_get _ _ _ _ _ hb]
  by_cases hi : b ≤ i ∧ i < b + n
  · rw [if_pos hi, decide_eq_true (show (b : Int) ≤ (i : Int) by omega), decide_eq_true (show (i : Int) < (b : Int) + (n : Int) by omega)]
    simp
  · rw [if_neg hi]
    by_cases h3 : b ≤ i
    · rw [decide_eq_false (show ¬ (i : Int) < (b : Int) + (n : Int) by omega)]; simp
    · rw [decide_eq_false (show ¬ (b : Int) ≤ (i : Int) by omega)]; simp
theorem Rep.cut (h : Rep L bs) (a n : Nat) (hn : a + n = bs.length) (hl : bs.length ≤ 1000) : Rep (cutL L (a : Int)) (putB bs a n false) := by
  obtain ⟨h1, h2⟩ := cut_spec h.ok (a : Int) (by omega)
  refine ⟨h1, fun i => ?_⟩
  rw [h2, h.mem, putB_get _ _ _ _ _ (by omega)]
  by_cases hi : i < a
  · rw [decide_eq_true (show (i : Int) < (a : Int) by omega), if_neg (by omega), Bool.and_true]
  · rw [decide_eq_false (show ¬ (i : Int) < (a : Int) by omega), Bool.and_false]
    by_cases h3 : i < a + n
    · rw [if_pos (by omega)]
    · rw [if_neg (by omega), h.at_ i (by omega)]
theorem gap {A B : List S56} {j : Int} (hA : ∀ x, x ∈ A → x.f1 ≤ j) (hB : ∀ y, y ∈ B → j < y.f0) : memL (A ++ B) j = false := by
  cases hm : memL (A ++ B) j with
  | false => rfl
  | true =>
    obtain ⟨x, hx, h1, h2⟩ := (memL_iff _ _).1 hm
    rcases List.mem_append.1 hx with hx | hx
    · have := hA x hx; omega
    · have := hB x hx; omega
/-- The last range, and what removing n addresses at the end does. -/
theorem Rep.last (h : Rep L bs) (hl : bs.length = 600) (hp : 0 < L.length) (n : Int) (n0 : 1 ≤ n) (n1 : n ≤ 40) :
    ∃ (lo t : Nat) (M : List S56), lo < t ∧ t ≤ 600 ∧ Ev (fun k => spec_Last.f k bs n) ((lo : Int), (t : Int) - (lo : Int)) ∧ mranges_RemoveLast.f L n = some (M, sumL M, (lo : Int), (t : Int)) ∧ Rep M (putB bs lo (t - lo) false) := by
  rcases List.eq_nil_or_concat L with rfl | ⟨A, x, rfl⟩
  · simp at hp
  rw [List.concat_eq_append] at h hp ⊢
  obtain ⟨oA, oX⟩ := (okL_append _ _ _).1 h.ok
  obtain ⟨x1, x2, x3, _⟩ := (okL_cons _ _ _).1 oX
  obtain ⟨x4, _, x5⟩ := h.lt x (by simp)
  obtain ⟨p, hp0⟩ := Int.eq_ofNat_of_zero_le x4
  obtain ⟨t, ht0⟩ := Int.eq_ofNat_of_zero_le (show 0 ≤ x.f1 by omega)
  have hlast : lastL (A ++ [x]) = x := by
    unfold lastL
    exact getL_mid' A [] x _ (by simp)
  have htake : (A ++ [x]).take ((A ++ [x]).length - 1) = A := by simp
  have hin : ∀ i : Nat, p ≤ i → i < t → bs.getD i false = true := by
    intro i h1 h2
    rw [← h.mem, memL_append, memL_cons, (hasR_iff x i).2 ⟨by omega, by omega⟩]
    simp
  have hout : ∀ i : Nat, t ≤ i → bs.getD i false = false := by
    intro i h1
    rw [← h.mem, ← List.append_nil (A ++ [x])]
    refine gap (fun y hy => ?_) (by simp)
    have := okL_hi _ _ h.ok y hy
    rw [hiL_concat] at this
    omega
  have hpre : p = 0 ∨ bs.getD (p - 1) false = false := by
    by_cases h0 : p = 0
    · exact .inl h0
    · refine .inr ?_
      rw [← h.mem]
      refine gap (fun y hy => ?_) (fun y hy => ?_)
      · have := okL_hi _ _ oA y hy
        omega
      · rw [List.mem_singleton.1 hy]
        omega
  have hLast : ∀ lo : Nat, lo < t → p ≤ lo → (lo = 0 ∨ bs.getD (lo - 1) false = false ∨ n ≤ (t : Int) - (lo : Int)) → (t : Int) - ((lo + 1 : Nat) : Int) < n → Ev (fun k => spec_Last.f k bs n) ((lo : Int), (t : Int) - (lo : Int)) := by
    intro lo h1 h2 h3 h4
    obtain ⟨q, rfl⟩ : ∃ q, t = q + 1 := ⟨t - 1, by omega⟩
    refine last0_ev bs (by omega) n q _ (hin q (by omega) (by omega)) ?_ (bs.length - (q + 1)) bs.length (by omega) (Nat.le_refl _) (fun i h5 _ => hout i (by omega))
    exact last1_ev bs (by omega) n (q + 1) lo (by omega) h3 (q + 1 - lo) (q + 1) (by omega) (Nat.le_refl _) (fun i h5 h6 => hin i (by omega) h6) (fun _ => h4)
  have hfit := fitL_of h.ok
  unfold mranges_RemoveLast.f
  rw [if_pos ⟨hfit, hp, by omega, by omega⟩, hlast, htake]
  by_cases hn : n < x.f1 - x.f0
  · rw [if_pos hn]
    obtain ⟨lo, hlo⟩ := Int.eq_ofNat_of_zero_le (show 0 ≤ x.f1 - n by omega)
    refine ⟨lo, t, A ++ [⟨x.f0, x.f1 - n⟩], by omega, by omega, hLast lo (by omega) (by omega) (.inr (.inr (by omega))) (by omega), by rw [hlo, ht0], ?_⟩
    refine ⟨(okL_append _ _ _).2 ⟨oA, (okL_cons _ _ _).2 ⟨x1, by show x.f0 < x.f1 - n; omega, by show x.f1 - n ≤ 1000; omega, rfl⟩⟩, fun i => ?_⟩
    rw [putB_get _ _ _ _ _ (by omega), ← h.mem, memL_append, memL_append, memL_cons, memL_cons, memL_nil, Bool.or_false, Bool.or_false]
    by_cases hi : lo ≤ i ∧ i < lo + (t - lo)
    · rw [if_pos hi]
      have h1 : hasR ⟨x.f0, x.f1 - n⟩ (i : Int) = false := by
        cases h2 : hasR ⟨x.f0, x.f1 - n⟩ (i : Int) with
        | false => rfl
        | true =>
          have h3 := ((hasR_iff _ _).1 h2).2
          have h4 : (i : Int) < x.f1 - n := h3
          omega
      have h2 : memL A (i : Int) = false := by
        rw [← List.append_nil A]
        refine gap (fun y hy => ?_) (by simp)
        have := okL_hi _ _ oA y hy
        omega
      rw [h1, h2]
      rfl
    · rw [if_neg hi]
      have h1 : hasR ⟨x.f0, x.f1 - n⟩ (i : Int) = hasR x (i : Int) := by
        rw [Bool.eq_iff_iff, hasR_iff, hasR_iff]
        show x.f0 ≤ (i : Int) ∧ (i : Int) < x.f1 - n ↔ _
        omega
      rw [h1]
  · rw [if_neg hn]
    refine ⟨p, t, A, by omega, by omega, hLast p (by omega) (Nat.le_refl _) (by rcases hpre with h1 | h1; exact .inl h1; exact .inr (.inl h1)) (by omega), by rw [hp0, ht0], ?_⟩
    refine ⟨oA, fun i => ?_⟩
    rw [putB_get _ _ _ _ _ (by omega), ← h.mem, memL_append, memL_cons, memL_nil, Bool.or_false]
    by_cases hi : p ≤ i ∧ i < p + (t - p)
    · rw [if_pos hi]
      rw [← List.append_nil A]
      refine gap (fun y hy => ?_) (by simp)
      have := okL_hi _ _ oA y hy
      omega
    · rw [if_neg hi]
      have h1 : hasR x (i : Int) = false := by
        cases h2 : hasR x (i : Int) with
        | false => rfl
        | true => have := (hasR_iff _ _).1 h2; omega
      rw [h1, Bool.or_false]
theorem Rep.inList (h : Rep L bs) (a : Nat) (ha : a ≤ 1000) : mranges_InList.f L (a : Int) = some (bs.getD a false) := by
  unfold mranges_InList.f
  rw [if_pos ⟨fitL_of h.ok, by omega, by omega⟩, ← h.mem]
  congr 1
  obtain ⟨A, B, rfl, hs, hA, hB⟩ := succ_dec (a : Int) L (-1) h.ok
  obtain ⟨oA, oB⟩ := (okL_append _ _ _).1 h.ok
  rw [hs]
  rcases List.eq_nil_or_concat A with rfl | ⟨A', x, rfl⟩
  · rw [if_pos (show ([] : List S56).length = 0 from rfl)]
    exact (gap (by simp) hB).symm
  · rw [List.concat_eq_append] at hs hA oA oB h ⊢
    rw [if_neg (by simp), List.append_assoc, List.singleton_append, getL_mid' _ _ _ _ (by simp), memL_append, memL_cons]
    obtain ⟨oA1, oA2⟩ := (okL_append _ _ _).1 oA
    obtain ⟨x1, x2, x3, _⟩ := (okL_cons _ _ _).1 oA2
    have hx := hA x (by simp)
    have e1 : memL A' (a : Int) = false := by
      rw [← List.append_nil A']
      refine gap (fun y hy => ?_) (by simp)
      have := okL_hi _ _ oA1 y hy
      omega
    have e2 : memL B (a : Int) = false := gap (A := []) (by simp) hB
    rw [e1, e2]
    simp
theorem Rep.find (h : Rep L bs) (hl : bs.length = 600) (hp : 0 < L.length) (a : Nat) (ha : a < 600) :
    ∃ (t : Nat) (r : Int), ((t = bs.length ∧ r = -1) ∨ (t < bs.length ∧ bs.getD t false = true ∧ r = (t : Int))) ∧ a ≤ t ∧ (∀ j, a ≤ j → j < t → bs.getD j false = false) ∧
      mranges_FindAddrGreaterEqual.f L (a : Int) = some (if r = -1 then (0, false) else (r, true)) := by
  unfold mranges_FindAddrGreaterEqual.f
  rw [if_pos ⟨fitL_of h.ok, hp, by omega, by omega⟩]
  obtain ⟨A, B, rfl, hs, hA, hB⟩ := succ_dec (a : Int) L (-1) h.ok
  obtain ⟨oA, oB⟩ := (okL_append _ _ _).1 h.ok
  rw [hs]
  -- the first range behind
  have next : ∀ y B', B = y :: B' → (∀ x, x ∈ A → x.f1 ≤ (a : Int)) → ∃ t : Nat, y.f0 = (t : Int) ∧ t < bs.length ∧ bs.getD t false = true ∧ a ≤ t ∧ (∀ j, a ≤ j → j < t → bs.getD j false = false) := by
    intro y B' hy hA1
    subst hy
    obtain ⟨y1, y2, y3, y4⟩ := (okL_cons _ _ _).1 oB
    obtain ⟨z0, z1, z2⟩ := h.lt y (by simp)
    obtain ⟨t, ht⟩ := Int.eq_ofNat_of_zero_le z0
    have h1 := hB y (by simp)
    refine ⟨t, ht, by omega, ?_, by omega, fun j h2 h3 => ?_⟩
    · rw [← h.mem]
      exact (memL_iff _ _).2 ⟨y, by simp, by omega, by omega⟩
    · rw [← h.mem]
      refine gap (fun x hx => ?_) (fun z hz => ?_)
      · have := hA1 x hx; omega
      · rcases List.mem_cons.1 hz with rfl | hz
        · omega
        · have := okL_all _ _ y4 z hz; omega
  rcases List.eq_nil_or_concat A with rfl | ⟨A', x, rfl⟩
  · rw [if_pos (show ([] : List S56).length = 0 from rfl)]
    rcases B with _ | ⟨y, B'⟩
    · simp at hp
    · obtain ⟨t, h1, h2, h3, h4, h5⟩ := next y B' rfl (by simp)
      refine ⟨t, (t : Int), .inr ⟨h2, h3, rfl⟩, h4, h5, ?_⟩
      rw [if_neg (by omega), show getL ([] ++ y :: B') 0 = y from rfl, h1]
  · rw [List.concat_eq_append] at hs hA oA oB h next hp ⊢
    obtain ⟨oA1, oA2⟩ := (okL_append _ _ _).1 oA
    obtain ⟨x1, x2, x3, _⟩ := (okL_cons _ _ _).1 oA2
    have hx := hA x (by simp)
    have g1 : getL ((A' ++ [x]) ++ B) ((A' ++ [x]).length - 1) = x := by
      rw [List.append_assoc]
      exact getL_mid' _ _ _ _ (by simp)
    rw [if_neg (by simp), g1]
    by_cases h1 : hasR x (a : Int) = true
    · rw [if_pos h1]
      have h2 : bs.getD a false = true := by
        rw [← h.mem]
        obtain ⟨h3, h4⟩ := (hasR_iff _ _).1 h1
        exact (memL_iff _ _).2 ⟨x, by simp, h3, h4⟩
      exact ⟨a, (a : Int), .inr ⟨by omega, h2, rfl⟩, Nat.le_refl _, fun j h3 h4 => by omega, by rw [if_neg (by omega)]⟩
    · rw [if_neg h1]
      have h2 : x.f1 ≤ (a : Int) := by
        have := mt (hasR_iff _ _).2 h1
        omega
      have h3 : ∀ z, z ∈ A' ++ [x] → z.f1 ≤ (a : Int) := by
        intro z hz
        have := okL_hi _ _ oA z hz
        rw [hiL_concat] at this
        omega
      rcases B with _ | ⟨y, B'⟩
      · rw [if_neg (by simp)]
        refine ⟨bs.length, -1, .inl ⟨rfl, rfl⟩, by omega, fun j h4 h5 => ?_, by rw [if_pos rfl]⟩
        rw [← h.mem]
        exact gap (fun z hz => by have := h3 z hz; omega) (by simp)
      · obtain ⟨t, h4, h5, h6, h7, h8⟩ := next y B' rfl h3
        rw [if_pos (by simp), getL_mid]
        refine ⟨t, (t : Int), .inr ⟨h5, h6, rfl⟩, h7, h8, ?_⟩
        rw [if_neg (by omega), h4]
end
/-! The thin package's functions -/
theorem given_map (L : List S56) (hl : L.length ≤ 1000) : Ev (fun k => impl_given.f k (L.map c35)) L := by
  have := given_f (L.map c35) (by simpa using hl)
  rwa [c56_c35] at this
theorem impl_add_ev (L M : List S56) (b l t : Int) (hl : L.length ≤ 1000) (hm : M.length ≤ 1000) (h : mranges_Add.f L b l = some (M, t)) : Ev (fun k => impl_Add.f k (L.map c35) b l) (M.map c35, t) := by
  unfold impl_Add.f
  refine Ev.bind (given_map L hl) ?_
  simp only [h, Option.bind_some]
  exact Ev.bind (told_f M hm) (Ev.now _)
theorem impl_cut_ev (L M : List S56) (a t : Int) (hl : L.length ≤ 1000) (hm : M.length ≤ 1000) (h : mranges_CutFrom.f L a = some (M, t)) : Ev (fun k => impl_CutFrom.f k (L.map c35) a) (M.map c35, t) := by
  unfold impl_CutFrom.f
  refine Ev.bind (given_map L hl) ?_
  simp only [h, Option.bind_some]
  exact Ev.bind (told_f M hm) (Ev.now _)
theorem impl_last_ev (L M : List S56) (a t r3 r4 : Int) (hl : L.length ≤ 1000) (hm : M.length ≤ 1000) (h : mranges_RemoveLast.f L a = some (M, t, r3, r4)) : Ev (fun k => impl_RemoveLast.f k (L.map c35) a) (M.map c35, t, r3, r4) := by
  unfold impl_RemoveLast.f
  refine Ev.bind (given_map L hl) ?_
  simp only [h, Option.bind_some]
  exact Ev.bind (told_f M hm) (Ev.now _)
theorem impl_find_ev (L : List S56) (a : Int) (p : Int × Bool) (hl : L.length ≤ 1000) (h : mranges_FindAddrGreaterEqual.f L a = some p) : Ev (fun k => impl_FindAddrGreaterEqual.f k (L.map c35) a) p := by
  unfold impl_FindAddrGreaterEqual.f
  refine Ev.bind (given_map L hl) ?_
  simp only [h, Option.bind_some]
  exact Ev.now _
theorem impl_in_ev (L : List S56) (a : Int) (p : Bool) (hl : L.length ≤ 1000) (h : mranges_InList.f L a = some p) : Ev (fun k => impl_InList.f k (L.map c35) a) p := by
  unfold impl_InList.f
  refine Ev.bind (given_map L hl) ?_
  simp only [h, Option.bind_some]
  exact Ev.now _
theorem impl_make (a b : Int) (a0 : 0 ≤ a) (a1 : a ≤ 1000) (b0 : 0 ≤ b) (b1 : b ≤ 1000) : impl_Make.f a b = some (a, b) := by
  unfold impl_Make.f mranges_Make.f mranges_makeAddrRange.f
  rw [if_pos ⟨a0, a1, b0, b1⟩]
  rfl
theorem impl_size : impl_Size.f 2 5 = some 3 := by
  decide
end Go.Proofs.Yticjdbdhnfmidaa.Pure
