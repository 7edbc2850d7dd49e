/-
  What an addrRanges holds in memory (St), and the contracts of the small functions in the form in which the functions of lists use them: said of addresses from 0 to 1000.
-/
import Derived.Test.YticjdbdhnfmidaaH1
import Derived.Test.YticjdbdhnfmidaaKF
import Derived.Test.YticjdbdhnfmidaaKC
import Derived.Deep.RegionHeld3
import Derived.Deep.DeepCutAuto
import Derived.WalkSpells
namespace Go.Proofs.Yticjdbdhnfmidaa.K
open Go.RowKit Go.Proofs.YticjdbdhnfmidaaW.PrintWords Go.Proofs.YticjdbdhnfmidaaW.PrintLast Go.Proofs.YticjdbdhnfmidaaW.PrintMore

theorem addr_c (a : Int) (w : World) : Calls Try.prog 40 #[.agg #[.int .u64 a]] w fun e w' => e = .returned (.int .u64 a) ∧ Below w.heap.size w w' :=
  mranges_offAddr_addr.calls a a w rfl
theorem less_c (a b : Int) (w : World) (a0 : 0 ≤ a) (a1 : a ≤ 1000) (b0 : 0 ≤ b) (b1 : b ≤ 1000) :
    Calls Try.prog 45 #[.agg #[.int .u64 a], .agg #[.int .u64 b]] w fun e w' => e = .returned (.bool (decide (a < b))) ∧ Below w.heap.size w w' := by
  refine mranges_offAddr_lessThan.calls a b (decide (a < b)) w ?_
  unfold mranges_offAddr_lessThan.f
  rw [u64_off a a0 a1, u64_off b b0 b1]
  congr 1
  exact decide_eq_decide.2 ⟨fun h => by omega, fun h => by omega⟩
theorem equal_c (a b : Int) (w : World) : Calls Try.prog 41 #[.agg #[.int .u64 a], .agg #[.int .u64 b]] w fun e w' => e = .returned (.bool (a == b)) ∧ Below w.heap.size w w' :=
  mranges_offAddr_equal.calls a b (a == b) w rfl
theorem sub_c (a b : Int) (w : World) (h : b ≤ a) (a1 : a ≤ 1000) (b0 : 0 ≤ b) : Calls Try.prog 44 #[.agg #[.int .u64 a], .int .u64 b] w fun e w' => e = .returned (.agg #[.int .u64 (a - b)]) ∧ Below w.heap.size w w' := by
  refine mranges_offAddr_sub.calls a b (a - b) w ?_
  unfold mranges_offAddr_sub.f
  congr 1
  simp only [IntKind.wrap_u64]; omega
theorem size_c (x0 x1 : Int) (w : World) (h0 : 0 ≤ x0) (h1 : x0 < x1) (h2 : x1 ≤ 1000) : Calls Try.prog 38 #[.agg #[.int .u64 x0, .int .u64 x1]] w fun e w' => e = .returned (.int .u64 (x1 - x0)) ∧ Below w.heap.size w w' := by
  refine mranges_addrRange_size.calls x0 x1 (x1 - x0) w ?_
  have e : mranges_offAddr_lessThan.f x0 x1 = some true := by
    unfold mranges_offAddr_lessThan.f
    rw [u64_off x0 h0 (by omega), u64_off x1 (by omega) h2]
    congr 1
    exact decide_eq_true (by omega)
  have e2 : mranges_offAddr_diff.f x1 x0 = some (x1 - x0) := by
    unfold mranges_offAddr_diff.f
    congr 1
    simp only [IntKind.wrap_u64]; omega
  unfold mranges_addrRange_size.f
  rw [e, Option.bind_some, if_pos rfl, e2]
  rfl
theorem size0_c (w : World) : Calls Try.prog 38 #[.agg #[.int .u64 0, .int .u64 0]] w fun e w' => e = .returned (.int .u64 0) ∧ Below w.heap.size w w' := by
  refine mranges_addrRange_size.calls 0 0 0 w ?_
  have e : mranges_offAddr_lessThan.f 0 0 = some false := by
    unfold mranges_offAddr_lessThan.f
    congr 1
  unfold mranges_addrRange_size.f
  rw [e, Option.bind_some, if_neg (by decide)]
theorem has_c (x0 x1 a : Int) (w : World) (h0 : 0 ≤ x0) (h0' : x0 ≤ 1000) (h1 : 0 ≤ x1) (h2 : x1 ≤ 1000) (a0 : 0 ≤ a) (a1 : a ≤ 1000) :
    Calls Try.prog 42 #[.agg #[.int .u64 x0, .int .u64 x1], .int .u64 a] w fun e w' => e = .returned (.bool (hasR ⟨x0, x1⟩ a)) ∧ Below w.heap.size w w' := by
  refine mranges_addrRange_contains.calls x0 x1 a (hasR ⟨x0, x1⟩ a) w ?_
  have e : mranges_offAddr_lessEqual.f x0 a = some (decide (x0 ≤ a)) := by
    unfold mranges_offAddr_lessEqual.f
    rw [u64_off x0 h0 h0', u64_off a a0 a1]
    congr 1
    exact decide_eq_decide.2 ⟨fun h => by omega, fun h => by omega⟩
  have e2 : mranges_offAddr_lessThan.f a x1 = some (decide (a < x1)) := by
    unfold mranges_offAddr_lessThan.f
    rw [u64_off x1 h1 h2, u64_off a a0 a1]
    congr 1
    exact decide_eq_decide.2 ⟨fun h => by omega, fun h => by omega⟩
  unfold mranges_addrRange_contains.f hasR
  rw [e, Option.bind_some, e2]
  by_cases h : x0 ≤ a
  · simp [h]
  · simp [h]
theorem in_c (x0 x1 : Int) (w : World) : Calls Try.prog 30 #[.agg #[.int .u64 x0, .int .u64 x1]] w fun e w' => e = .returned (.agg #[.int .u64 x0, .int .u64 x1]) ∧ Below w.heap.size w w' :=
  mranges_in.calls x0 x1 x0 x1 w rfl
theorem out_c (x0 x1 : Int) (w : World) : Calls Try.prog 32 #[.agg #[.int .u64 x0, .int .u64 x1]] w fun e w' => e = .returned (.agg #[.int .u64 x0, .int .u64 x1]) ∧ Below w.heap.size w w' :=
  mranges_out.calls x0 x1 x0 x1 w rfl
/-- A range's removeGreaterEqual: nothing is left, all of it, or what is below. -/
def cutR (x : S56) (a : Int) : S56 := if a ≤ x.f0 then ⟨0, 0⟩ else if x.f1 ≤ a then x else ⟨x.f0, a⟩
theorem cut_c (x0 x1 a : Int) (w : World) (h0 : 0 ≤ x0) (h0' : x0 ≤ 1000) (h1 : 0 ≤ x1) (h2 : x1 ≤ 1000) (a0 : 0 ≤ a) (a1 : a ≤ 1000) :
    Calls Try.prog 43 #[.agg #[.int .u64 x0, .int .u64 x1], .int .u64 a] w fun e w' => e = .returned (.agg #[.int .u64 (cutR ⟨x0, x1⟩ a).f0, .int .u64 (cutR ⟨x0, x1⟩ a).f1]) ∧ Below w.heap.size w w' := by
  refine mranges_addrRange_removeGreaterEqual.calls x0 x1 a _ _ w ?_
  have e : mranges_offAddr_lessEqual.f a x0 = some (decide (a ≤ x0)) := by
    unfold mranges_offAddr_lessEqual.f
    rw [u64_off x0 h0 h0', u64_off a a0 a1]
    congr 1
    exact decide_eq_decide.2 ⟨fun h => by omega, fun h => by omega⟩
  have e2 : mranges_offAddr_lessEqual.f x1 a = some (decide (x1 ≤ a)) := by
    unfold mranges_offAddr_lessEqual.f
    rw [u64_off x1 h1 h2, u64_off a a0 a1]
    congr 1
    exact decide_eq_decide.2 ⟨fun h => by omega, fun h => by omega⟩
  have e3 : mranges_makeAddrRange.f x0 a = some (x0, a) := by
    unfold mranges_makeAddrRange.f
    rw [if_pos ⟨h0, h0', a0, a1⟩]
  unfold mranges_addrRange_removeGreaterEqual.f cutR
  rw [e, Option.bind_some]
  by_cases h : a ≤ x0
  · simp [h]
  · rw [if_neg (by simp [h]), e2, Option.bind_some]
    by_cases h' : x1 ≤ a
    · simp [h, h']
    · have e4 : mranges_offAddr_addr.f x0 = some x0 := rfl
      rw [if_neg (by simp [h'])]
      simp [h, h', e3, e4]

/-- A list's cells. -/
def cl : List S56 → List Value
  | [] => []
  | x :: r => .int .u64 x.f0 :: .int .u64 x.f1 :: cl r
theorem cl_length (L : List S56) : (cl L).length = L.length * 2 := by
  induction L with
  | nil => rfl
  | cons x r ih => simp only [cl, List.length_cons, ih]; omega
theorem cl_append (L M : List S56) : cl (L ++ M) = cl L ++ cl M := by
  induction L with
  | nil => rfl
  | cons x r ih => simp only [List.cons_append, cl, ih]
theorem cl_get (L : List S56) : ∀ i, i < L.length → (cl L)[i * 2]? = some (.int .u64 (getL L i).f0) ∧ (cl L)[i * 2 + 1]? = some (.int .u64 (getL L i).f1) := by
  induction L with
  | nil => intro i h; simp at h
  | cons x r ih =>
    intro i h
    cases i with
    | zero => simp [cl, getL]
    | succ i =>
      have := ih i (by simpa using h)
      simp only [cl, getL, List.getD_cons_succ, Nat.succ_mul] at this ⊢
      exact this
theorem cl_take (L : List S56) (i : Nat) : (cl L).take (i * 2) = cl (L.take i) := by
  induction L generalizing i with
  | nil => simp [cl]
  | cons x r ih =>
    cases i with
    | zero => simp [cl]
    | succ i => simp only [cl, Nat.succ_mul, List.take_succ_cons, ih]
theorem cl_drop (L : List S56) (i : Nat) : (cl L).drop (i * 2) = cl (L.drop i) := by
  induction L generalizing i with
  | nil => simp [cl]
  | cons x r ih =>
    cases i with
    | zero => simp [cl]
    | succ i => simp only [cl, Nat.succ_mul, List.drop_succ_cons, ih]
theorem cl_one (L : List S56) : ∀ u ∈ cl L, u.oneCell' = true := by
  induction L with
  | nil => intro u h; cases h
  | cons x r ih =>
    intro u h
    simp only [cl, List.mem_cons] at h
    rcases h with rfl | rfl | h
    · rfl
    · rfl
    · exact ih u h

/-- What an addrRanges holds in memory: the struct is block g, its slice's array block gr. -/
structure St (w : World) (base g gr c : Nat) (cur : Array Value) (L : List S56) (tot : Int) : Prop where
  gb : w.heap[g]? = some (.cells #[.slice (some ⟨gr, 0, none⟩) L.length c, .int .u64 tot] 84 (0, 0))
  rb : w.heap[gr]? = some (.cells cur 71 (0, 0))
  g0 : base ≤ g
  r0 : base ≤ gr
  lc : L.length ≤ c
  cm : c ≤ 9223372036854775807
  cs : cur.size = c * 2
  ct : cur.toList.take (L.length * 2) = cl L
section
variable {w w' : World} {base g gr c : Nat} {cur : Array Value} {L : List S56} {tot : Int}
theorem St.below (h : St w base g gr c cur L tot) (hb : Below w.heap.size w w') : St w' base g gr c cur L tot :=
  ⟨blk_below h.gb hb, blk_below h.rb hb, h.g0, h.r0, h.lc, h.cm, h.cs, h.ct⟩
theorem St.ne (h : St w base g gr c cur L tot) : g ≠ gr := blk_ne h.gb h.rb (by decide)
theorem St.cellS (h : St w base g gr c cur L tot) : w.cell? ⟨g, 0, none⟩ = some (.slice (some ⟨gr, 0, none⟩) L.length c) := (blk_cell h.gb 0).trans rfl
theorem St.cellT (h : St w base g gr c cur L tot) : w.cell? ⟨g, 1, none⟩ = some (.int .u64 tot) := (blk_cell h.gb 1).trans rfl
theorem St.frozS (h : St w base g gr c cur L tot) (i : Nat) : w.frozen? ⟨g, i, none⟩ = false := blk_frozen h.gb i
theorem St.frozR (h : St w base g gr c cur L tot) (i : Nat) : w.frozen? ⟨gr, i, none⟩ = false := blk_frozen h.rb i
theorem St.get (h : St w base g gr c cur L tot) (j : Nat) (hj : j < L.length * 2) : cur[j]? = (cl L)[j]? := by
  rw [← h.ct, List.getElem?_take, if_pos hj]
  simp
theorem St.cell0 (h : St w base g gr c cur L tot) (i : Nat) (hi : i < L.length) : w.cell? ⟨gr, i * 2, none⟩ = some (.int .u64 (getL L i).f0) := by
  rw [blk_cell h.rb, h.get _ (by omega)]
  exact (cl_get L i hi).1
theorem St.cell1 (h : St w base g gr c cur L tot) (i : Nat) (hi : i < L.length) : w.cell? ⟨gr, i * 2 + 1, none⟩ = some (.int .u64 (getL L i).f1) := by
  rw [blk_cell h.rb, h.get _ (by omega)]
  exact (cl_get L i hi).2
end

/-- What a fitting list's ranges are. -/
theorem okL_get : ∀ (L : List S56) (lo : Int), okL lo L = true → ∀ i, i < L.length → lo < (getL L i).f0 ∧ (getL L i).f0 < (getL L i).f1 ∧ (getL L i).f1 ≤ 1000 := by
  intro L
  induction L with
  | nil => intro lo _ i h; simp at h
  | cons x r ih =>
    intro lo h i hi
    simp only [okL, Bool.and_eq_true, decide_eq_true_eq] at h
    cases i with
    | zero => exact ⟨h.1, h.2.1, h.2.2.1⟩
    | succ i =>
      have := ih x.f1 h.2.2.2 i (by simpa using hi)
      simp only [getL, List.getD_cons_succ] at this ⊢
      exact ⟨by omega, this.2.1, this.2.2⟩
theorem fitL_get {L : List S56} (h : fitL L = true) (i : Nat) (hi : i < L.length) : 0 ≤ (getL L i).f0 ∧ (getL L i).f0 < (getL L i).f1 ∧ (getL L i).f1 ≤ 1000 := by
  simp only [fitL, Bool.and_eq_true] at h
  have := okL_get L (-1) h.1 i hi
  exact ⟨by omega, this.2.1, this.2.2⟩
theorem fitL_len {L : List S56} (h : fitL L = true) : L.length ≤ 600 := by
  simp only [fitL, Bool.and_eq_true, decide_eq_true_eq] at h
  exact h.2
end Go.Proofs.Yticjdbdhnfmidaa.K
