/-
  Lists of ranges and the addresses that they hold.
-/
import Derived.Test.YticjdbdhnfmidaaKD0
namespace Go.Proofs.Yticjdbdhnfmidaa.Pure
open Go.RowKit Go.Proofs.Yticjdbdhnfmidaa.K

def memL (L : List S56) (a : Int) : Bool := L.any (fun x => hasR x a)
@[simp] theorem memL_nil (a : Int) : memL [] a = false := rfl
@[simp] theorem memL_cons (x : S56) (r : List S56) (a : Int) : memL (x :: r) a = (hasR x a || memL r a) := by simp [memL]
@[simp] theorem memL_append (A B : List S56) (a : Int) : memL (A ++ B) a = (memL A a || memL B a) := by simp [memL]
theorem hasR_iff (x : S56) (a : Int) : hasR x a = true ↔ x.f0 ≤ a ∧ a < x.f1 := by simp [hasR]
theorem memL_iff (L : List S56) (a : Int) : memL L a = true ↔ ∃ x, x ∈ L ∧ x.f0 ≤ a ∧ a < x.f1 := by simp [memL, hasR]
theorem okL_cons (lo : Int) (x : S56) (r : List S56) : okL lo (x :: r) = true ↔ lo < x.f0 ∧ x.f0 < x.f1 ∧ x.f1 ≤ 1000 ∧ okL x.f1 r = true := by simp [okL]
def hiL : Int → List S56 → Int
  | lo, [] => lo
  | _, x :: r => hiL x.f1 r
theorem okL_append (A B : List S56) : ∀ lo, okL lo (A ++ B) = true ↔ okL lo A = true ∧ okL (hiL lo A) B = true := by
  induction A with
  | nil => intro lo; simp [okL, hiL]
  | cons x r ih =>
    intro lo
    rw [List.cons_append, okL_cons, okL_cons, ih]
    simp only [hiL]
    constructor
    · rintro ⟨a, b, c, d, e⟩; exact ⟨⟨a, b, c, d⟩, e⟩
    · rintro ⟨⟨a, b, c, d⟩, e⟩; exact ⟨a, b, c, d, e⟩
theorem hiL_concat (A : List S56) (x : S56) : ∀ lo, hiL lo (A ++ [x]) = x.f1 := by
  induction A with
  | nil => intro lo; rfl
  | cons y r ih => intro lo; exact ih _
theorem okL_all : ∀ (L : List S56) (lo : Int), okL lo L = true → ∀ x, x ∈ L → lo < x.f0 ∧ x.f0 < x.f1 ∧ x.f1 ≤ 1000 := by
  intro L
  induction L with
  | nil => intro lo _ x hx; simp at hx
  | cons y r ih =>
    intro lo h x hx
    obtain ⟨h1, h2, h3, h4⟩ := (okL_cons _ _ _).1 h
    rcases List.mem_cons.1 hx with rfl | hx
    · exact ⟨h1, h2, h3⟩
    · have := ih _ h4 x hx
      omega
theorem okL_mem {L : List S56} {lo a : Int} (h : okL lo L = true) (ha : memL L a = true) : lo < a ∧ a < 1000 := by
  obtain ⟨x, hx, h1, h2⟩ := (memL_iff _ _).1 ha
  have := okL_all L lo h x hx
  omega
theorem okL_hi : ∀ (L : List S56) (lo : Int), okL lo L = true → ∀ x, x ∈ L → x.f1 ≤ hiL lo L := by
  intro L
  induction L with
  | nil => intro lo _ x hx; simp at hx
  | cons y r ih =>
    intro lo h x hx
    obtain ⟨h1, h2, h3, h4⟩ := (okL_cons _ _ _).1 h
    have hr : y.f1 ≤ hiL y.f1 r := by
      rcases r with _ | ⟨z, r'⟩
      · exact Int.le_refl _
      · have h5 := ih _ h4 z (by simp)
        have h6 := okL_all _ _ h4 z (by simp)
        omega
    rcases List.mem_cons.1 hx with rfl | hx
    · exact hr
    · exact ih _ h4 x hx
theorem okL_le : ∀ (L : List S56) (lo : Int), okL lo L = true → lo ≤ 1000 → (L.length : Int) * 2 ≤ 1000 - lo := by
  intro L
  induction L with
  | nil => intro lo _ h; simp; omega
  | cons y r ih =>
    intro lo h _
    obtain ⟨h1, h2, h3, h4⟩ := (okL_cons _ _ _).1 h
    have := ih _ h4 h3
    rw [List.length_cons]
    omega
theorem fitL_of {L : List S56} (h : okL (-1) L = true) : fitL L = true := by
  have := okL_le L (-1) h (by omega)
  simp only [fitL, h, Bool.true_and, decide_eq_true_eq]
  omega
/-- A list of ranges is fixed by its addresses. -/
theorem uniq : ∀ (L M : List S56) (lo lo' : Int), okL lo L = true → okL lo' M = true → (∀ a, memL L a = memL M a) → L = M := by
  intro L
  induction L with
  | nil =>
    intro M lo lo' _ hM h
    rcases M with _ | ⟨y, M⟩
    · rfl
    · obtain ⟨h1, h2, h3, h4⟩ := (okL_cons _ _ _).1 hM
      have h5 := h y.f0
      have h6 : hasR y y.f0 = true := (hasR_iff _ _).2 ⟨by omega, h2⟩
      simp [h6] at h5
  | cons x L ih =>
    intro M lo lo' hL hM h
    obtain ⟨x1, x2, x3, x4⟩ := (okL_cons _ _ _).1 hL
    rcases M with _ | ⟨y, M⟩
    · have h5 := h x.f0
      have h6 : hasR x x.f0 = true := (hasR_iff _ _).2 ⟨by omega, x2⟩
      simp [h6] at h5
    · obtain ⟨y1, y2, y3, y4⟩ := (okL_cons _ _ _).1 hM
      have key : ∀ a, (x.f0 ≤ a ∧ a < x.f1 ∨ memL L a = true) ↔ (y.f0 ≤ a ∧ a < y.f1 ∨ memL M a = true) := by
        intro a
        have := h a
        rw [memL_cons, memL_cons, Bool.eq_iff_iff, Bool.or_eq_true, Bool.or_eq_true, hasR_iff, hasR_iff] at this
        exact this
      have e0 : x.f0 = y.f0 := by
        have a1 := (key x.f0).1 (.inl ⟨by omega, x2⟩)
        have a2 := (key y.f0).2 (.inl ⟨by omega, y2⟩)
        rcases a1 with a1 | a1 <;> rcases a2 with a2 | a2
        · omega
        · have := okL_mem x4 a2; omega
        · have := okL_mem y4 a1; omega
        · have := okL_mem x4 a2; have := okL_mem y4 a1; omega
      have e1 : x.f1 = y.f1 := by
        rcases Int.lt_trichotomy x.f1 y.f1 with hlt | he | hlt
        · rcases (key x.f1).2 (.inl ⟨by omega, hlt⟩) with a1 | a1
          · omega
          · have := okL_mem x4 a1; omega
        · exact he
        · rcases (key y.f1).1 (.inl ⟨by omega, hlt⟩) with a1 | a1
          · omega
          · have := okL_mem y4 a1; omega
      have exy : x = y := by
        rcases x with ⟨xa, xb⟩; rcases y with ⟨ya, yb⟩
        simp only at e0 e1
        rw [e0, e1]
      subst exy
      have : L = M := by
        refine ih M x.f1 x.f1 x4 y4 (fun a => ?_)
        rw [Bool.eq_iff_iff]
        constructor
        · intro ha
          have hm := okL_mem x4 ha
          rcases (key a).1 (.inr ha) with a1 | a1
          · omega
          · exact a1
        · intro ha
          have hm := okL_mem y4 ha
          rcases (key a).2 (.inr ha) with a1 | a1
          · omega
          · exact a1
      rw [this]
theorem succ_dec (a : Int) : ∀ (L : List S56) (lo : Int), okL lo L = true → ∃ A B, L = A ++ B ∧ succL L a = A.length ∧ (∀ x, x ∈ A → x.f0 ≤ a) ∧ (∀ y, y ∈ B → a < y.f0) := by
  intro L
  induction L with
  | nil => intro lo _; exact ⟨[], [], rfl, rfl, by simp, by simp⟩
  | cons x r ih =>
    intro lo h
    obtain ⟨h1, h2, h3, h4⟩ := (okL_cons _ _ _).1 h
    by_cases hx : a < x.f0
    · refine ⟨[], x :: r, rfl, by simp [succL, hx], by simp, fun y hy => ?_⟩
      rcases List.mem_cons.1 hy with rfl | hy
      · exact hx
      · have := okL_all _ _ h4 y hy
        omega
    · obtain ⟨A, B, hr, hs, hA, hB⟩ := ih _ h4
      refine ⟨x :: A, B, by rw [hr]; rfl, by simp [succL, hx, hs], fun y hy => ?_, hB⟩
      rcases List.mem_cons.1 hy with rfl | hy
      · omega
      · exact hA y hy
theorem getL_mid (A B : List S56) (y : S56) : getL (A ++ y :: B) A.length = y := by simp [getL]
theorem getL_mid' (A B : List S56) (y : S56) (n : Nat) (h : n = A.length) : getL (A ++ y :: B) n = y := by rw [h]; exact getL_mid A B y

theorem add_form {L : List S56} (h : okL (-1) L = true) (b l : Int) : ∃ A B, L = A ++ B ∧ (∀ x, x ∈ A → x.f0 ≤ b) ∧ (∀ y, y ∈ B → b < y.f0) ∧
    ((∃ A' x y B', A = A' ++ [x] ∧ B = y :: B' ∧ x.f1 = b ∧ l = y.f0 ∧ addL L b l = A' ++ ⟨x.f0, y.f1⟩ :: B') ∨
     (∃ y B', B = y :: B' ∧ (∀ A' x, A = A' ++ [x] → x.f1 ≠ b) ∧ l = y.f0 ∧ addL L b l = A ++ ⟨b, y.f1⟩ :: B') ∨
     (∃ A' x, A = A' ++ [x] ∧ (∀ y B', B = y :: B' → l ≠ y.f0) ∧ x.f1 = b ∧ addL L b l = A' ++ ⟨x.f0, l⟩ :: B) ∨
     ((∀ A' x, A = A' ++ [x] → x.f1 ≠ b) ∧ (∀ y B', B = y :: B' → l ≠ y.f0) ∧ addL L b l = A ++ ⟨b, l⟩ :: B)) := by
  obtain ⟨A, B, rfl, hs, hA, hB⟩ := succ_dec b L (-1) h
  refine ⟨A, B, rfl, hA, hB, ?_⟩
  have hu : upL (A ++ B) b l = true ↔ ∃ y B', B = y :: B' ∧ l = y.f0 := by
    unfold upL
    rw [hs]
    rcases B with _ | ⟨y, B'⟩
    · simp
    · rw [getL_mid]; simp
  have hd : downL (A ++ B) b = true ↔ ∃ A' x, A = A' ++ [x] ∧ x.f1 = b := by
    unfold downL
    rw [hs]
    rcases List.eq_nil_or_concat A with rfl | ⟨A', x, rfl⟩
    · simp
    · rw [List.concat_eq_append, List.append_assoc, List.singleton_append, getL_mid' _ _ _ _ (by simp)]
      simp
      constructor
      · intro h; exact ⟨A', x, ⟨rfl, rfl⟩, h⟩
      · rintro ⟨A2, x2, ⟨rfl, rfl⟩, h⟩; exact h
  unfold addL
  rw [hs]
  by_cases h1 : upL (A ++ B) b l = true
  · obtain ⟨y, B', rfl, hl⟩ := hu.1 h1
    rw [if_pos h1, getL_mid]
    by_cases h2 : downL (A ++ y :: B') b = true
    · obtain ⟨A', x, rfl, hx⟩ := hd.1 h2
      rw [if_pos h2]
      refine .inl ⟨A', x, y, B', rfl, rfl, hx, hl, ?_⟩
      rw [show getL ((A' ++ [x]) ++ y :: B') ((A' ++ [x]).length - 1) = x by rw [List.append_assoc]; exact getL_mid' _ _ _ _ (by simp)]
      have e1 : ((A' ++ [x]) ++ y :: B').drop ((A' ++ [x]).length + 1) = B' := by
        rw [← List.drop_drop, List.drop_left]
        rfl
      rw [e1]
      simp
    · rw [if_neg h2]
      refine .inr (.inl ⟨y, B', rfl, fun A' x hx e => h2 (hd.2 ⟨A', x, hx, e⟩), hl, ?_⟩)
      simp
  · rw [if_neg h1]
    by_cases h2 : downL (A ++ B) b = true
    · obtain ⟨A', x, rfl, hx⟩ := hd.1 h2
      rw [if_pos h2]
      refine .inr (.inr (.inl ⟨A', x, rfl, fun y B' hy e => h1 (hu.2 ⟨y, B', hy, e⟩), hx, ?_⟩))
      rw [show getL ((A' ++ [x]) ++ B) ((A' ++ [x]).length - 1) = x by rw [List.append_assoc]; exact getL_mid' _ _ _ _ (by simp)]
      simp
    · rw [if_neg h2]
      refine .inr (.inr (.inr ⟨fun A' x hx e => h2 (hd.2 ⟨A', x, hx, e⟩), fun y B' hy e => h1 (hu.2 ⟨y, B', hy, e⟩), ?_⟩))
      simp
theorem add_spec {L : List S56} (h : okL (-1) L = true) (b l : Int) (b0 : 0 ≤ b) (bl : b < l) (l1 : l ≤ 1000) (hfree : ∀ a, b ≤ a → a < l → memL L a = false) :
    okL (-1) (addL L b l) = true ∧ ∀ a, memL (addL L b l) a = (memL L a || (decide (b ≤ a) && decide (a < l))) := by
  obtain ⟨A, B, rfl, hA, hB, hc⟩ := add_form h b l
  have fA : ∀ x, x ∈ A → x.f1 ≤ b := by
    intro x hx
    have h1 := hfree b (by omega) bl
    rw [memL_append] at h1
    by_cases h2 : x.f1 ≤ b
    · exact h2
    · have h3 : memL A b = true := (memL_iff _ _).2 ⟨x, hx, hA x hx, by omega⟩
      simp [h3] at h1
  have fB : ∀ y, y ∈ B → l ≤ y.f0 := by
    intro y hy
    have h2 := hB y hy
    by_cases h4 : l ≤ y.f0
    · exact h4
    · have h1 := hfree y.f0 (by omega) (by omega)
      rw [memL_append] at h1
      have h5 := okL_all _ _ h y (by simp [hy])
      have h3 : memL B y.f0 = true := (memL_iff _ _).2 ⟨y, hy, by omega, by omega⟩
      simp [h3] at h1
  obtain ⟨oA, oB⟩ := (okL_append _ _ _).1 h
  have fin : ∀ (p q x y z c : Bool), (x || y || z) = c → ((p || x) || (y || q) || z) = (p || (c || q)) := by decide
  rcases hc with ⟨A', x, y, B', rfl, rfl, hx, hl, e⟩ | ⟨y, B', rfl, hx, hl, e⟩ | ⟨A', x, rfl, hl, hx, e⟩ | ⟨hx, hl, e⟩
  · rw [e]
    rw [hiL_concat] at oB
    obtain ⟨oA1, oA2⟩ := (okL_append _ _ _).1 oA
    obtain ⟨x1, x2, x3, _⟩ := (okL_cons _ _ _).1 oA2
    obtain ⟨y1, y2, y3, y4⟩ := (okL_cons _ _ _).1 oB
    refine ⟨(okL_append _ _ _).2 ⟨oA1, (okL_cons _ _ _).2 ⟨x1, by show x.f0 < y.f1; omega, y3, y4⟩⟩, fun a => ?_⟩
    simp only [memL_append, memL_cons, memL_nil, Bool.or_false]
    refine (fin _ _ _ _ _ _ ?_).symm
    rw [Bool.eq_iff_iff]
    simp only [Bool.or_eq_true, hasR_iff, Bool.and_eq_true, decide_eq_true_eq]
    omega
  · rw [e]
    obtain ⟨y1, y2, y3, y4⟩ := (okL_cons _ _ _).1 oB
    refine ⟨(okL_append _ _ _).2 ⟨oA, (okL_cons _ _ _).2 ⟨?_, by show b < y.f1; omega, y3, y4⟩⟩, fun a => ?_⟩
    · rcases List.eq_nil_or_concat A with rfl | ⟨A', x, rfl⟩
      · show (-1 : Int) < b; omega
      · rw [List.concat_eq_append] at hx fA ⊢
        rw [hiL_concat]
        have h1 := fA x (by simp)
        have h2 := hx A' x rfl
        show x.f1 < b
        omega
    · simp only [memL_append, memL_cons]
      have := fin (memL A a) (memL B' a) false (hasR y a) (decide (b ≤ a) && decide (a < l)) (hasR ⟨b, y.f1⟩ a) (by
        rw [Bool.eq_iff_iff]
        simp only [Bool.or_eq_true, hasR_iff, Bool.and_eq_true, decide_eq_true_eq]
        simp only [Bool.false_eq_true, false_or]
        omega)
      rw [Bool.or_false] at this
      exact this.symm
  · rw [e]
    rw [hiL_concat] at oB
    obtain ⟨oA1, oA2⟩ := (okL_append _ _ _).1 oA
    obtain ⟨x1, x2, x3, _⟩ := (okL_cons _ _ _).1 oA2
    refine ⟨(okL_append _ _ _).2 ⟨oA1, (okL_cons _ _ _).2 ⟨x1, by show x.f0 < l; omega, l1, ?_⟩⟩, fun a => ?_⟩
    · rcases B with _ | ⟨y, B'⟩
      · rfl
      · obtain ⟨y1, y2, y3, y4⟩ := (okL_cons _ _ _).1 oB
        have h1 := fB y (by simp)
        have h2 := hl y B' rfl
        exact (okL_cons _ _ _).2 ⟨by show l < y.f0; omega, y2, y3, y4⟩
    · simp only [memL_append, memL_cons, memL_nil, Bool.or_false]
      have := fin (memL A' a) (memL B a) (hasR x a) false (decide (b ≤ a) && decide (a < l)) (hasR ⟨x.f0, l⟩ a) (by
        rw [Bool.eq_iff_iff]
        simp only [Bool.or_eq_true, hasR_iff, Bool.and_eq_true, decide_eq_true_eq]
        simp only [Bool.false_eq_true, or_false]
        omega)
      rw [Bool.false_or] at this
      exact this.symm
  · rw [e]
    refine ⟨(okL_append _ _ _).2 ⟨oA, (okL_cons _ _ _).2 ⟨?_, bl, l1, ?_⟩⟩, fun a => ?_⟩
    · rcases List.eq_nil_or_concat A with rfl | ⟨A', x, rfl⟩
      · show (-1 : Int) < b; omega
      · rw [List.concat_eq_append] at hx fA ⊢
        rw [hiL_concat]
        have h1 := fA x (by simp)
        have h2 := hx A' x rfl
        show x.f1 < b
        omega
    · rcases B with _ | ⟨y, B'⟩
      · rfl
      · obtain ⟨y1, y2, y3, y4⟩ := (okL_cons _ _ _).1 oB
        have h1 := fB y (by simp)
        have h2 := hl y B' rfl
        exact (okL_cons _ _ _).2 ⟨by show l < y.f0; omega, y2, y3, y4⟩
    · simp only [memL_append, memL_cons]
      have := fin (memL A a) (memL B a) false false (decide (b ≤ a) && decide (a < l)) (hasR ⟨b, l⟩ a) (by simp [hasR])
      rw [Bool.or_false, Bool.false_or] at this
      exact this.symm
theorem cut_spec {L : List S56} (h : okL (-1) L = true) (a : Int) (a1 : a ≤ 1000) :
    okL (-1) (cutL L a) = true ∧ ∀ z, memL (cutL L a) z = (memL L z && decide (z < a)) := by
  obtain ⟨A, B, rfl, hs, hA, hB⟩ := succ_dec a L (-1) h
  obtain ⟨oA, oB⟩ := (okL_append _ _ _).1 h
  have mB : ∀ z, z < a → memL B z = false := by
    intro z hz
    cases hm : memL B z with
    | false => rfl
    | true =>
      obtain ⟨y, hy, h1, h2⟩ := (memL_iff _ _).1 hm
      have := hB y hy
      omega
  unfold cutL
  rw [hs]
  rcases List.eq_nil_or_concat A with rfl | ⟨A', x, rfl⟩
  · refine ⟨rfl, fun z => ?_⟩
    rw [if_pos (show ([] : List S56).length = 0 from rfl)]
    by_cases hz : z < a
    · simp [mB z hz]
    · simp [hz]
  · rw [List.concat_eq_append] at hs hA oA oB h ⊢
    rw [if_neg (by simp), List.append_assoc, List.singleton_append, getL_mid' _ _ _ _ (by simp)]
    obtain ⟨oA1, oA2⟩ := (okL_append _ _ _).1 oA
    obtain ⟨x1, x2, x3, _⟩ := (okL_cons _ _ _).1 oA2
    have hx := hA x (by simp)
    have mA : ∀ z, a ≤ z → memL A' z = false := by
      intro z hz
      cases hm : memL A' z with
      | false => rfl
      | true =>
        obtain ⟨y, hy, h1, h2⟩ := (memL_iff _ _).1 hm
        have := okL_hi _ _ oA1 y hy
        omega
    have e1 : (A' ++ x :: B).take ((A' ++ [x]).length - 1) = A' := by simp
    have e2 : (A' ++ x :: B).take ((A' ++ [x]).length) = A' ++ [x] := by
      rw [show A' ++ x :: B = (A' ++ [x]) ++ B by simp]
      exact List.take_left
    by_cases h1 : hasR x a = true
    · rw [if_pos h1, e1]
      obtain ⟨h2, h3⟩ := (hasR_iff _ _).1 h1
      by_cases h4 : a ≤ x.f0
      · rw [if_pos h4]
        refine ⟨oA1, fun z => ?_⟩
        by_cases hz : z < a
        · have h5 : hasR x z = false := by
            cases h6 : hasR x z with
            | false => rfl
            | true => have := (hasR_iff _ _).1 h6; omega
          simp [mB z hz, h5, hz]
        · simp [mA z (by omega), hz]
      · rw [if_neg h4]
        refine ⟨(okL_append _ _ _).2 ⟨oA1, (okL_cons _ _ _).2 ⟨x1, by show x.f0 < a; omega, a1, rfl⟩⟩, fun z => ?_⟩
        by_cases hz : z < a
        · have h5 : hasR ⟨x.f0, a⟩ z = hasR x z := by
            rw [Bool.eq_iff_iff, hasR_iff, hasR_iff]
            show x.f0 ≤ z ∧ z < a ↔ _
            omega
          simp [mB z hz, h5, hz]
        · have h5 : hasR ⟨x.f0, a⟩ z = false := by
            cases h6 : hasR ⟨x.f0, a⟩ z with
            | false => rfl
            | true =>
              have h7 := (hasR_iff _ _).1 h6
              have h8 : z < a := h7.2
              omega
          simp [mA z (by omega), h5, hz]
    · rw [if_neg h1, e2]
      refine ⟨oA, fun z => ?_⟩
      have h2 : x.f1 ≤ a := by
        have := mt (hasR_iff _ _).2 h1
        omega
      by_cases hz : z < a
      · simp [mB z hz, hz]
      · have h5 : hasR x z = false := by
          cases h6 : hasR x z with
          | false => rfl
          | true => have := (hasR_iff _ _).1 h6; omega
        simp [mA z (by omega), h5, hz]
/-! How many addresses -/
def cnt (f : Nat → Bool) : Nat → Nat
  | 0 => 0
  | n + 1 => cnt f n + (if f n = true then 1 else 0)
theorem cnt_congr {f g : Nat → Bool} : ∀ n, (∀ i, i < n → f i = g i) → cnt f n = cnt g n
  | 0, _ => rfl
  | n + 1, h => by simp only [cnt]; rw [cnt_congr n (fun i hi => h i (by omega)), h n (by omega)]
theorem cnt_false {f : Nat → Bool} : ∀ n, (∀ i, i < n → f i = false) → cnt f n = 0
  | 0, _ => rfl
  | n + 1, h => by simp only [cnt]; rw [cnt_false n (fun i hi => h i (by omega)), h n (by omega)]; simp
theorem cnt_more {f : Nat → Bool} {m : Nat} (h : ∀ i, m ≤ i → f i = false) : ∀ n, m ≤ n → cnt f n = cnt f m := by
  intro n hn
  induction n with
  | zero => have : m = 0 := by omega
            rw [this]
  | succ n ih =>
    by_cases he : m = n + 1
    · rw [he]
    · simp only [cnt]
      rw [ih (by omega), h n (by omega)]
      simp
theorem cnt_or {f g : Nat → Bool} : ∀ n, (∀ i, i < n → f i = true → g i = false) → cnt (fun i => f i || g i) n = cnt f n + cnt g n
  | 0, _ => rfl
  | n + 1, h => by
    simp only [cnt]
    rw [cnt_or n (fun i hi => h i (by omega))]
    have := h n (by omega)
    by_cases hf : f n = true
    · have := this hf
      simp [hf, this]
      omega
    · simp [hf]
      omega
theorem cnt_range (p q : Int) (p0 : 0 ≤ p) (pq : p ≤ q) : ∀ n : Nat, (cnt (fun i => decide (p ≤ (i : Int)) && decide ((i : Int) < q)) n : Int) = max 0 (min (n : Int) q - p)
  | 0 => by simp [cnt]; omega
  | n + 1 => by
    have ih := cnt_range p q p0 pq n
    simp only [cnt]
    by_cases h : p ≤ (n : Int) ∧ (n : Int) < q
    · rw [if_pos (by simp [h.1, h.2])]
      omega
    · rw [if_neg (by simp only [Bool.and_eq_true, decide_eq_true_eq]; exact h)]
      omega
theorem sumL_cnt : ∀ (L : List S56) (lo : Int), okL lo L = true → -1 ≤ lo → sumL L = (cnt (fun i => memL L i) 1000 : Int) := by
  intro L
  induction L with
  | nil => intro lo _ _; rw [cnt_false (f := fun i : Nat => memL [] (i : Int)) _ (fun _ _ => rfl)]; rfl
  | cons x r ih =>
    intro lo h hlo
    obtain ⟨h1, h2, h3, h4⟩ := (okL_cons _ _ _).1 h
    have e : cnt (fun i => memL (x :: r) i) 1000 = cnt (fun i : Nat => decide (x.f0 ≤ (i : Int)) && decide ((i : Int) < x.f1)) 1000 + cnt (fun i => memL r i) 1000 := by
      rw [← cnt_or 1000 (fun i _ hi => ?_)]
      · refine cnt_congr _ (fun i _ => ?_)
        simp [hasR]
      · simp only [Bool.and_eq_true, decide_eq_true_eq] at hi
        cases hm : memL r (i : Int) with
        | false => rfl
        | true => have := okL_mem h4 hm; omega
    have e2 := cnt_range x.f0 x.f1 (by omega) (by omega) 1000
    have e3 := ih _ h4 (by omega)
    show x.f1 - x.f0 + sumL r = _
    rw [e, e3]
    omega
end Go.Proofs.Yticjdbdhnfmidaa.Pure
