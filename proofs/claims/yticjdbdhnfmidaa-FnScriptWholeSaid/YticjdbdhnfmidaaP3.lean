/-
  The runs of the bits, and the script.
-/
import Derived.Test.YticjdbdhnfmidaaP2
import Derived.Test.YticjdbdhnfmidaaKA
namespace Go.Proofs.Yticjdbdhnfmidaa.Pure
open Go.RowKit Go.Proofs.Yticjdbdhnfmidaa.K Go.Proofs.YticjdbdhnfmidaaW.PrintWords

/-- A list and its bits. -/
structure Rep (L : List S56) (bs : List Bool) : Prop where
  ok : okL (-1) L = true
  mem : ∀ i : Nat, memL L (i : Int) = bs.getD i false
/-- A list and its first bits. -/
structure RepTo (L : List S56) (bs : List Bool) (n : Nat) : Prop where
  ok : okL (-1) L = true
  mem : ∀ i : Nat, memL L (i : Int) = (decide (i < n) && bs.getD i false)
theorem Rep.uniq {L M : List S56} {bs : List Bool} (h : Rep L bs) (k : Rep M bs) : L = M := by
  refine Pure.uniq L M (-1) (-1) h.ok k.ok (fun a => ?_)
  by_cases ha : 0 ≤ a
  · obtain ⟨n, rfl⟩ := Int.eq_ofNat_of_zero_le ha
    rw [h.mem, k.mem]
  · have h1 : memL L a = false := by
      cases hm : memL L a with
      | false => rfl
      | true => have := okL_mem h.ok hm; omega
    have h2 : memL M a = false := by
      cases hm : memL M a with
      | false => rfl
      | true => have := okL_mem k.ok hm; omega
    rw [h1, h2]
theorem RepTo.nil (bs : List Bool) : RepTo [] bs 0 := ⟨rfl, fun i => by simp⟩
theorem RepTo.all {L : List S56} {bs : List Bool} (h : RepTo L bs bs.length) : Rep L bs := ⟨h.ok, fun i => by
  rw [h.mem]
  by_cases hi : i < bs.length
  · simp [hi]
  · simp [hi, List.getD_eq_getElem?_getD]⟩
theorem RepTo.lt {A : List S56} {bs : List Bool} {n : Nat} (h : RepTo A bs n) (x : S56) (hx : x ∈ A) : x.f1 ≤ n := by
  obtain ⟨h1, h2, h3⟩ := okL_all A _ h.ok x hx
  obtain ⟨q, hq⟩ : ∃ q : Nat, x.f1 - 1 = (q : Int) := Int.eq_ofNat_of_zero_le (by omega)
  have h4 := h.mem q
  rw [(memL_iff A (q : Int)).2 ⟨x, hx, by omega, by omega⟩] at h4
  have h5 := (Bool.and_eq_true _ _).mp h4.symm
  have h6 := of_decide_eq_true h5.1
  omega
theorem RepTo.skip {L : List S56} {bs : List Bool} {n : Nat} (h : RepTo L bs n) (hb : bs.getD n false = false) : RepTo L bs (n + 1) := ⟨h.ok, fun i => by
  rw [h.mem]
  by_cases hi : i = n
  · rw [hi, hb]; simp
  · have : (i < n ↔ i < n + 1) := by omega
    simp [this]⟩
theorem RepTo.new {L : List S56} {bs : List Bool} {n : Nat} (h : RepTo L bs n) (hn : n < 1000) (hb : bs.getD n false = true) (hp : n = 0 ∨ bs.getD (n - 1) false = false) : RepTo (L ++ [⟨(n : Int), (n : Int) + 1⟩]) bs (n + 1) := by
  refine ⟨(okL_append _ _ _).2 ⟨h.ok, (okL_cons _ _ _).2 ⟨?_, by show (n : Int) < n + 1; omega, by show (n : Int) + 1 ≤ 1000; omega, rfl⟩⟩, fun i => ?_⟩
  · rcases List.eq_nil_or_concat L with rfl | ⟨A, x, rfl⟩
    · show (-1 : Int) < n; omega
    · rw [List.concat_eq_append] at h ⊢
      rw [hiL_concat]
      show x.f1 < (n : Int)
      have h1 := h.lt x (by simp)
      obtain ⟨h2, h3, h4⟩ := okL_all _ _ h.ok x (by simp)
      by_cases h5 : x.f1 = n
      · rcases hp with rfl | hp
        · omega
        · have h6 := h.mem (n - 1)
          rw [hp, (memL_iff _ _).2 ⟨x, by simp, by omega, by omega⟩] at h6
          simp at h6
      · omega
  · rw [memL_append, h.mem, memL_cons, memL_nil, Bool.or_false]
    by_cases hi : i = n
    · subst hi
      have : hasR ⟨(i : Int), (i : Int) + 1⟩ (i : Int) = true := (hasR_iff _ _).2 ⟨by show (i : Int) ≤ i; omega, by show (i : Int) < i + 1; omega⟩
      simp [this]
      simpa using hb
    · have h1 : hasR ⟨(n : Int), (n : Int) + 1⟩ (i : Int) = false := by
        cases hh : hasR ⟨(n : Int), (n : Int) + 1⟩ (i : Int) with
        | false => rfl
        | true =>
          have h2 := (hasR_iff _ _).1 hh
          have h3 : (n : Int) ≤ i := h2.1
          have h4 : (i : Int) < n + 1 := h2.2
          omega
      have h2 : (i < n ↔ i < n + 1) := by omega
      simp [h1, h2]
theorem RepTo.more {L : List S56} {bs : List Bool} {n : Nat} (h : RepTo L bs (n + 1)) (hn : n + 1 < 1000) (hb : bs.getD (n + 1) false = true) (hp : bs.getD n false = true) :
    ∃ A x, L = A ++ [x] ∧ x.f1 = (n : Int) + 1 ∧ RepTo (A ++ [⟨x.f0, (n : Int) + 1 + 1⟩]) bs (n + 1 + 1) := by
  have hm := h.mem n
  rw [hp] at hm
  simp only [Nat.lt_succ_self, decide_true, Bool.and_true] at hm
  obtain ⟨y, hy, y0, y1⟩ := (memL_iff _ _).1 hm
  have y2 := h.lt y hy
  rcases List.eq_nil_or_concat L with rfl | ⟨A, x, rfl⟩
  · simp at hy
  · rw [List.concat_eq_append] at h hy ⊢
    obtain ⟨oA, oX⟩ := (okL_append _ _ _).1 h.ok
    obtain ⟨x1, x2, x3, _⟩ := (okL_cons _ _ _).1 oX
    have x4 := h.lt x (by simp)
    have hyx : y = x := by
      rcases List.mem_append.1 hy with hA | hX
      · have := okL_hi _ _ oA y hA
        omega
      · simpa using hX
    subst hyx
    have e1 : y.f1 = (n : Int) + 1 := by omega
    refine ⟨A, y, rfl, e1, (okL_append _ _ _).2 ⟨oA, (okL_cons _ _ _).2 ⟨x1, by show y.f0 < (n : Int) + 1 + 1; omega, by show (n : Int) + 1 + 1 ≤ 1000; omega, rfl⟩⟩, fun i => ?_⟩
    have h5 := h.mem i
    rw [memL_append, memL_cons, memL_nil, Bool.or_false] at h5 ⊢
    by_cases hi : i = n + 1
    · subst hi
      have : hasR ⟨y.f0, (n : Int) + 1 + 1⟩ ((n + 1 : Nat) : Int) = true := (hasR_iff _ _).2 ⟨by show y.f0 ≤ _; omega, by show ((n + 1 : Nat) : Int) < (n : Int) + 1 + 1; omega⟩
      rw [this, hb]
      simp
    · have h6 : hasR ⟨y.f0, (n : Int) + 1 + 1⟩ (i : Int) = hasR y (i : Int) := by
        rw [Bool.eq_iff_iff, hasR_iff, hasR_iff]
        show y.f0 ≤ (i : Int) ∧ (i : Int) < (n : Int) + 1 + 1 ↔ _
        omega
      rw [h6, h5]
      have h7 : (i < n + 1 ↔ i < n + 1 + 1) := by omega
      simp [h7]
theorem runs_new (k : Nat) (x0 x6 : List Bool) (M : List S56) (i : Nat) (x7 : Int) (hM : M.length ≤ 1000) (hi : i ≤ 1000) :
    ((some (M.map c35 ++ [(⟨IntKind.u64.wrap (i : Int), IntKind.u64.wrap (i : Int)⟩ : S35)] : List (S35))).bind fun y224 => (if 0 ≤ (wrap64 ((y224.length : Int) - 1)) then (if (wrap64 ((y224.length : Int) - 1)) < (y224.length : Int) then (spec_Runs.l0 k x0 (y224.set ((wrap64 ((y224.length : Int) - 1)) : Int).toNat (⟨(rd_T35 y224 (wrap64 ((y224.length : Int) - 1))).f0, IntKind.u64.wrap (((rd_T35 y224 (wrap64 ((y224.length : Int) - 1))).f1) + 1)⟩ : S35)) x6 x7 (wrap64 ((i : Int) + 1))) else (none)) else (none))) =
    spec_Runs.l0 k x0 ((M ++ [(⟨(i : Int), (i : Int) + 1⟩ : S56)]).map c35) x6 x7 ((i + 1 : Nat) : Int) := by
  rw [Option.bind_some]
  have hl : ((M.map c35 ++ [(⟨IntKind.u64.wrap (i : Int), IntKind.u64.wrap (i : Int)⟩ : S35)]).length : Int) = ((M.length + 1 : Nat) : Int) := by simp
  simp only [hl]
  rw [w64p M.length (by omega), if_pos (by omega), if_pos (by omega), w64s i (by omega), Int.toNat_natCast, rd35_nat _ _ (by simp), u64w (i : Int) (by omega) (by omega)]
  congr 1
  simp
  rw [u64w _ (by omega) (by omega)]
  rfl
theorem runs_more (k : Nat) (x0 x6 : List Bool) (A : List S56) (x : S56) (i : Nat) (x7 : Int) (hM : A.length ≤ 1000) (hi : i ≤ 1000) (hx : x.f1 = (i : Int)) :
    (if 0 ≤ (wrap64 ((((A ++ [x]).map c35).length : Int) - 1)) then (if (wrap64 ((((A ++ [x]).map c35).length : Int) - 1)) < (((A ++ [x]).map c35).length : Int) then (spec_Runs.l0 k x0 (((A ++ [x]).map c35).set ((wrap64 ((((A ++ [x]).map c35).length : Int) - 1)) : Int).toNat (⟨(rd_T35 ((A ++ [x]).map c35) (wrap64 ((((A ++ [x]).map c35).length : Int) - 1))).f0, IntKind.u64.wrap (((rd_T35 ((A ++ [x]).map c35) (wrap64 ((((A ++ [x]).map c35).length : Int) - 1))).f1) + 1)⟩ : S35)) x6 x7 (wrap64 ((i : Int) + 1))) else (none)) else (none)) =
    spec_Runs.l0 k x0 ((A ++ [(⟨x.f0, (i : Int) + 1⟩ : S56)]).map c35) x6 x7 ((i + 1 : Nat) : Int) := by
  have hl : (((A ++ [x]).map c35).length : Int) = ((A.length + 1 : Nat) : Int) := by simp
  simp only [hl]
  rw [w64p A.length (by omega), if_pos (by omega), if_pos (by omega), w64s i (by omega), Int.toNat_natCast, rd35_nat _ _ (by simp)]
  congr 1
  have e1 : ((A ++ [x]).map c35)[A.length]'(by simp) = c35 x := by simp
  rw [e1]
  have e2 : IntKind.u64.wrap ((c35 x).f1 + 1) = (i : Int) + 1 := by
    show IntKind.u64.wrap (x.f1 + 1) = _
    rw [hx]
    exact u64w _ (by omega) (by omega)
  rw [e2]
  simp [c35]
theorem runs_ev (bs : List Bool) (hs : bs.length ≤ 900) : ∀ m i M, i + m = bs.length → RepTo M bs i → ∃ R, Ev (fun k => spec_Runs.l0 k bs (M.map c35) bs (bs.length : Int) (i : Int)) (R.map c35) ∧ Rep R bs
  | 0, i, M, h, hr => ⟨M, Ev.step (f := fun _ => some _) (fun k => by rw [spec_Runs.l0, if_neg (by omega)]) (Ev.now _), by
      obtain rfl : i = bs.length := by omega
      exact hr.all⟩
  | m + 1, i, M, h, hr => by
    have hl := okL_le M (-1) hr.ok (by omega)
    have hlen : M.length ≤ 1000 := by omega
    by_cases hb : bs.getD i false = true
    · have key : i = 0 ∨ bs.getD (i - 1) false = false → ∃ R, Ev (fun k => spec_Runs.l0 k bs (M.map c35) bs (bs.length : Int) (i : Int)) (R.map c35) ∧ Rep R bs := by
        intro hp
        obtain ⟨R, h1, h2⟩ := runs_ev bs hs m (i + 1) _ (by omega) (hr.new (by omega) hb hp)
        refine ⟨R, Ev.step (fun k => ?_) h1, h2⟩
        rw [spec_Runs.l0, if_pos (by omega), if_pos (by omega), if_pos (by omega), rdOf_nat, if_pos hb]
        by_cases h0 : i = 0
        · rw [if_pos (by omega), if_pos (by simp; omega)]
          exact runs_new k bs bs M i _ hlen (by omega)
        · obtain ⟨q, rfl⟩ : ∃ q, i = q + 1 := ⟨i - 1, by omega⟩
          have hq : bs.getD q false = false := by
            rcases hp with h3 | h3
            · omega
            · exact h3
          rw [if_neg (by omega), w64p q (by omega), if_pos (by omega), if_pos (by omega), rdOf_nat, if_neg (by rw [hq]; decide), if_pos (by simp; omega)]
          exact runs_new k bs bs M (q + 1) _ hlen (by omega)
      by_cases h0 : i = 0
      · exact key (.inl h0)
      · obtain ⟨q, rfl⟩ : ∃ q, i = q + 1 := ⟨i - 1, by omega⟩
        by_cases hq : bs.getD q false = true
        · obtain ⟨A, x, rfl, hx, hr2⟩ := hr.more (by omega) hb hq
          obtain ⟨R, h1, h2⟩ := runs_ev bs hs m (q + 1 + 1) _ (by omega) hr2
          refine ⟨R, Ev.step (fun k => ?_) h1, h2⟩
          rw [spec_Runs.l0, if_pos (by omega), if_pos (by omega), if_pos (by omega), rdOf_nat, if_pos hb, if_neg (by omega), w64p q (by omega), if_pos (by omega), if_pos (by omega), rdOf_nat, if_pos hq]
          exact runs_more k bs bs A x (q + 1) _ (by simp at hlen; omega) (by omega) (by omega)
        · exact key (.inr (by simpa using hq))
    · obtain ⟨R, h1, h2⟩ := runs_ev bs hs m (i + 1) M (by omega) (hr.skip (by simpa using hb))
      refine ⟨R, Ev.step (fun k => ?_) h1, h2⟩
      rw [spec_Runs.l0, if_pos (by omega), if_pos (by omega), if_pos (by omega), rdOf_nat, if_neg hb, w64s i (by omega)]
theorem runs_f {L : List S56} (bs : List Bool) (hs : bs.length ≤ 900) (h : Rep L bs) : Ev (fun k => spec_Runs.f k bs) (L.map c35) := by
  obtain ⟨R, h1, h2⟩ := runs_ev bs hs bs.length 0 [] (Nat.zero_add _) (RepTo.nil bs)
  rw [h.uniq h2]
  exact h1

/-! The script -/
def fitOp (o : S28) : Prop := (o.f0 = 0 ∨ o.f0 = 1 ∨ o.f0 = 2) ∧ 1 ≤ o.f1 ∧ o.f1 ≤ 511 ∧ 1 ≤ o.f2 ∧ o.f2 ≤ 40
theorem script_op (x y z : Int) (x0 : 0 ≤ x) (y0 : 0 ≤ y) (y1 : y ≤ 255) (z0 : 0 ≤ z) :
    0 ≤ Int.tmod x 5 ∧ Int.tmod x 5 < 5 ∧ fitOp ⟨rd [0, 0, 0, 1, 2] (Int.tmod x 5), wrap64 (1 + (wrap64 (2 * (wrap64 y)))), wrap64 (1 + (wrap64 (Int.tmod z 40)))⟩ := by
  have e1 : Int.tmod x 5 = x % 5 := Int.tmod_eq_emod_of_nonneg x0
  have e2 : Int.tmod z 40 = z % 40 := Int.tmod_eq_emod_of_nonneg z0
  rw [e1, e2]
  have h1 : 0 ≤ x % 5 := by omega
  have h2 : x % 5 < 5 := by omega
  refine ⟨h1, h2, ?_, ?_⟩
  · show rd [0, 0, 0, 1, 2] (x % 5) = 0 ∨ rd [0, 0, 0, 1, 2] (x % 5) = 1 ∨ rd [0, 0, 0, 1, 2] (x % 5) = 2
    have : x % 5 = 0 ∨ x % 5 = 1 ∨ x % 5 = 2 ∨ x % 5 = 3 ∨ x % 5 = 4 := by omega
    rcases this with h | h | h | h | h <;> rw [h] <;> decide
  · show 1 ≤ wrap64 (1 + wrap64 (2 * wrap64 y)) ∧ wrap64 (1 + wrap64 (2 * wrap64 y)) ≤ 511 ∧ 1 ≤ wrap64 (1 + wrap64 (z % 40)) ∧ wrap64 (1 + wrap64 (z % 40)) ≤ 40
    rw [w64 y (by omega) (by omega), w64 (2 * y) (by omega) (by omega), w64 (1 + 2 * y) (by omega) (by omega), w64 (z % 40) (by omega) (by omega), w64 (1 + z % 40) (by omega) (by omega)]
    omega
theorem rd_byte (xs : List Int) (hx : ∀ x ∈ xs, (Lit.int .u8 x).wf = true) (i : Int) : 0 ≤ rd xs i ∧ rd xs i ≤ 255 := by
  unfold rd
  rw [List.getD_eq_getElem?_getD]
  cases h : xs[i.toNat]? with
  | none => simp
  | some v =>
    have := hx v (List.mem_of_getElem? h)
    simp only [Option.getD_some]
    simp [Lit.wf] at this
    have h1 : IntKind.u8.min = 0 := rfl
    have h2 : IntKind.u8.max = 255 := rfl
    omega
theorem script_ev (xs : List Int) (hl : xs.length ≤ 2147483647) (hx : ∀ x ∈ xs, (Lit.int .u8 x).wf = true) :
    ∀ (n i : Nat) (ops : List S28), i + n * 3 ≤ 240 → ops.length + n = 80 → (∀ o ∈ ops, fitOp o) → ∃ r, Ev (fun k => spec_Script.l0 k xs ops (i : Int)) r ∧ (∀ o ∈ r, fitOp o) ∧ r.length ≤ 80 := by
  intro n
  induction n with
  | zero =>
    intro i ops h5 h1 h2
    refine ⟨ops, Ev.step (f := fun _ => some ops) (fun k => ?_) (Ev.now _), h2, by omega⟩
    rw [spec_Script.l0]
    by_cases h3 : wrap64 ((i : Int) + 2) < (xs.length : Int)
    · rw [if_pos h3, if_neg (by omega)]
    · rw [if_neg h3]
  | succ n ih =>
    intro i ops h5 h1 h2
    by_cases h0 : i + 2 < xs.length
    · have w1 : wrap64 ((i : Int) + 1) = (i : Int) + 1 := w64 _ (by omega) (by omega)
      have w2 : wrap64 ((i : Int) + 2) = (i : Int) + 2 := w64 _ (by omega) (by omega)
      have w3 : wrap64 ((i : Int) + 3) = ((i + 3 : Nat) : Int) := by rw [w64 _ (by omega) (by omega)]; omega
      have c1 : wrap64 ((i : Int) + 2) < (xs.length : Int) := by omega
      have c2 : (ops.length : Int) < 80 := by omega
      have c3 : (0 : Int) ≤ (i : Int) := by omega
      have c4 : (i : Int) < (xs.length : Int) := by omega
      have c5 : 0 ≤ wrap64 ((i : Int) + 1) := by omega
      have c6 : wrap64 ((i : Int) + 1) < (xs.length : Int) := by omega
      have c7 : 0 ≤ wrap64 ((i : Int) + 2) := by omega
      have c8 : ops.length < 5864062014805 := by omega
      have c9 : i + 3 + n * 3 ≤ 240 := by omega
      have r0 := rd_byte xs hx (i : Int)
      have r1 := rd_byte xs hx (wrap64 ((i : Int) + 1))
      have r2 := rd_byte xs hx (wrap64 ((i : Int) + 2))
      obtain ⟨t0, t1, hf⟩ := script_op (rd xs (i : Int)) (rd xs (wrap64 ((i : Int) + 1))) (rd xs (wrap64 ((i : Int) + 2))) r0.1 r1.1 r1.2 r2.1
      have t2 : Int.tmod (rd xs (i : Int)) 5 < ((([0, 0, 0, 1, 2] : List Int)).length : Int) := t1
      clear w1 w2 r0 r1 r2 t1
      obtain ⟨o, ho⟩ : ∃ o : S28, o = ⟨rd [0, 0, 0, 1, 2] (Int.tmod (rd xs (i : Int)) 5), wrap64 (1 + (wrap64 (2 * (wrap64 (rd xs (wrap64 ((i : Int) + 1))))))), wrap64 (1 + (wrap64 (Int.tmod (rd xs (wrap64 ((i : Int) + 2))) 40)))⟩ := ⟨_, rfl⟩
      rw [← ho] at hf
      obtain ⟨r, e1, e2, e3⟩ := ih (i + 3) (ops ++ [o]) c9 (by rw [List.length_append, List.length_singleton]; omega) (fun o' ho' => by
        rcases List.mem_append.1 ho' with ho' | ho'
        · exact h2 o' ho'
        · rw [List.mem_singleton.1 ho']
          exact hf)
      refine ⟨r, Ev.step (fun k => ?_) e1, e2, e3⟩
      rw [spec_Script.l0, if_pos c1, if_pos c2, Option.bind_some, if_pos c3, if_pos c4, if_pos t0, if_pos t2, if_pos c5, if_pos c6, if_pos c7, if_pos c8, w3, ho]
    · refine ⟨ops, Ev.step (f := fun _ => some ops) (fun k => ?_) (Ev.now _), h2, by omega⟩
      rw [spec_Script.l0]
      by_cases h3 : wrap64 ((i : Int) + 2) < (xs.length : Int)
      · rw [w64 _ (by omega) (by omega)] at h3
        omega
      · rw [if_neg h3]
theorem script_f (xs : List Int) (hl : xs.length ≤ 2147483647) (hx : ∀ x ∈ xs, (Lit.int .u8 x).wf = true) : ∃ r, Ev (fun k => spec_Script.f k xs) r ∧ (∀ o ∈ r, fitOp o) ∧ r.length ≤ 80 :=
  script_ev xs hl hx 80 0 [] (by omega) rfl (by simp)
end Go.Proofs.Yticjdbdhnfmidaa.Pure
