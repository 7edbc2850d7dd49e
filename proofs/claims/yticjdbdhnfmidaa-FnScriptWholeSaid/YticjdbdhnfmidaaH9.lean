/-
  A copy of elements of two cells as a step of a region; and what the array holds while add makes room in it.
-/
import Derived.Test.YticjdbdhnfmidaaH8
import Derived.Laws.CopyOwn
namespace Go.Proofs.Yticjdbdhnfmidaa.K
open Go.RowKit Go.Proofs.YticjdbdhnfmidaaW.PrintWords Go.Proofs.YticjdbdhnfmidaaW.PrintLast Go.Proofs.YticjdbdhnfmidaaW.PrintMore

theorem run_copy2 {P : Program} (w : World) (dT sT ty elem : TypeId) (hu : P.underlying dT = some (.slice elem)) {i : TypeInfo} (hi : P.info? elem = some i) (hsz : i.size = 2)
    (dp sp : Option Addr) (dLen dCap sLen sCap g off n : Nat) (cur : Array Value) (t : TypeId) (cs : List Value) (hn : n = Nat.min sLen dLen) (hl : cs.length = n * 2) (hg : w.heap[g]? = some (.cells cur t (0, 0)))
    (hpos : 0 < n → dp = some ⟨g, off, none⟩ ∧ ∃ ad, sp = some ad ∧ ∀ j v, cs[j]? = some v → w.cell? (ad.add j) = some v) (hfit : off + cs.length ≤ cur.size) (h1 : ∀ v ∈ cs, v.oneCell' = true) :
    ∃ w', (Builtin.copy_ #[dT, sT] ty #[.slice dp dLen dCap, .slice sp sLen sCap]).run P w = .ok (goInt n) w' ∧ w'.heap[g]? = some (.cells (splice cur.toList off cs).toArray t (0, 0)) ∧ w.grownBy w' (some g) := by
  rcases Nat.eq_zero_or_pos n with h0 | h0
  · subst h0
    have hc : cs = [] := List.eq_nil_of_length_eq_zero (by simpa using hl)
    subst hc
    refine ⟨w, ?_, by simpa [splice] using hg, World.grownBy.refl w _⟩
    have hs : (Builtin.firstCells i.size 0 (.slice sp sLen sCap)).run P w = .ok #[] w := by
      cases sp with
      | none => exact run_firstCells_none w i.size 0 sLen sCap
      | some b => exact run_firstCells_some (P := P) w i.size 0 b sLen sCap [] (by simp) (by simp)
    rw [hsz] at hs
    cases dp with
    | none => simp [Builtin.copy_, run_underlying hu, sizeOf, typeInfo, hi, hsz, Builtin.lenOf, ← hn, hs]
    | some d => simp [Builtin.copy_, run_underlying hu, sizeOf, typeInfo, hi, hsz, Builtin.lenOf, ← hn, hs, storeCells]
  · obtain ⟨rfl, ad, rfl, hsrc⟩ := hpos h0
    have hs := run_firstCells_some (P := P) w i.size n ad sLen sCap cs (by rw [hsz]; exact hl) hsrc
    have hst := run_storeCells_at P g off t cs 0 cur w hg (by simpa using hfit) h1
    simp only [Nat.add_zero] at hst
    rw [hsz] at hs
    refine ⟨_, ?_, setRow_heap w g cur _ t _ hg, ⟨rfl, rfl, rfl, by simp [World.setRow], fun k _ hk => setRow_other w g k _ (fun e => hk (by rw [e]))⟩⟩
    · simp [Builtin.copy_, run_underlying hu, sizeOf, typeInfo, hi, hsz, Builtin.lenOf, ← hn, hs, hst, splice, List.append_assoc]

theorem step_copy2 {P : Program} {ops : Array Oper} {o : Oper} {a : Act} {w : World} {K : Act → World → Prop} {Q : Exit → Act → World → Prop} {E : Prop} (hgd : o.guard = none) (d s : Operand) (dT sT : TypeId)
    (ho : o.op = .call { callee := .builtin .copy, args := #[d, s], argTypes := #[dT, sT] }) (elem : TypeId) (hu : P.underlying dT = some (.slice elem)) (hsz : (P.info? elem).map (·.size) = some 2)
    (dp sp : Option Addr) (dLen dCap sLen sCap : Nat) (hd : a.eval d = .slice dp dLen dCap) (hs : a.eval s = .slice sp sLen sCap)
    (g off n : Nat) (cur : Array Value) (t : TypeId) (hg : w.heap[g]? = some (.cells cur t (0, 0))) (cs : List Value) (hn : n = Nat.min sLen dLen) (hl : cs.length = n * 2)
    (hpos : 0 < n → dp = some ⟨g, off, none⟩ ∧ ∃ ad, sp = some ad ∧ ∀ j v, cs[j]? = some v → w.cell? (ad.add j) = some v)
    (hfit : off + cs.length ≤ cur.size) (h1 : ∀ v ∈ cs, v.oneCell' = true)
    (h : ∀ w', w'.heap[g]? = some (.cells (splice cur.toList off cs).toArray t (0, 0)) → w.grownBy w' (some g) → K (a.put o.dst (goInt n)) w') :
    if Region.wanted o (yielded ops a.tmps) = true then Oper.wp P o a w K Q else E := by
  have hw : Region.wanted o (yielded ops a.tmps) = true := by simp [Region.wanted, hgd]
  rw [if_pos hw]
  obtain ⟨i, hi, hsz'⟩ := Option.map_eq_some_iff.1 hsz
  obtain ⟨w', hrun, hh, hgr⟩ := run_copy2 (P := P) w dT sT o.type elem hu hi hsz' dp sp dLen dCap sLen sCap g off n cur t cs hn hl hg hpos hfit h1
  unfold Oper.wp
  simp [execOp, ho, resolve, invoke, builtin, hd, hs, hrun, Result.andThen]
  exact h w' hh hgr

theorem take_two {α : Type} (A B C : List α) (n : Nat) (h : n = A.length + B.length) : (A ++ (B ++ C)).take n = A ++ B := by
  rw [← List.append_assoc, h, ← List.length_append]
  exact List.take_left
theorem set2 {α : Type} (T : List α) : ∀ j, j + 1 < T.length → ∀ u v : α, (T.set j u).set (j + 1) v = T.take j ++ u :: v :: T.drop (j + 2) := by
  induction T with
  | nil => intro j h; simp at h
  | cons x r ih =>
    intro j h u v
    cases j with
    | zero =>
      cases r with
      | nil => simp at h
      | cons y r => simp
    | succ j =>
      have := ih j (by simpa using h) u v
      simp only [List.set_cons_succ, List.take_succ_cons, List.cons_append, List.drop_succ_cons] at this ⊢
      rw [this]

/-- The slice is one longer than L; before place i it holds L's first i ranges, behind it the others. -/
structure Hole (w : World) (base g gr c : Nat) (cur : Array Value) (L : List S56) (i : Nat) (tot : Int) : Prop where
  gb : w.heap[g]? = some (.cells #[.slice (some ⟨gr, 0, none⟩) (L.length + 1) c, .int .u64 tot] 84 (0, 0))
  rb : w.heap[gr]? = some (.cells cur 71 (0, 0))
  g0 : base ≤ g
  r0 : base ≤ gr
  il : i ≤ L.length
  lc : L.length + 1 ≤ c
  cm : c ≤ 9223372036854775807
  cs : cur.size = c * 2
  c1 : cur.toList.take (i * 2) = cl (L.take i)
  c2 : (cur.toList.drop ((i + 1) * 2)).take ((L.length - i) * 2) = cl (L.drop i)
section
variable {w w' : World} {base g gr c : Nat} {cur : Array Value} {L : List S56} {i : Nat} {tot : Int}
theorem Hole.below (h : Hole w base g gr c cur L i tot) (hb : Below w.heap.size w w') : Hole w' base g gr c cur L i tot :=
  ⟨blk_below h.gb hb, blk_below h.rb hb, h.g0, h.r0, h.il, h.lc, h.cm, h.cs, h.c1, h.c2⟩
theorem Hole.ne (h : Hole w base g gr c cur L i tot) : g ≠ gr := blk_ne h.gb h.rb (by decide)
theorem Hole.fill (h : Hole w base g gr c cur L i tot) (u v : Int) :
    ∃ cur', St ((w.setCell ⟨gr, i * 2, none⟩ (.int .u64 u)).setCell ⟨gr, i * 2 + 1, none⟩ (.int .u64 v)) base g gr c cur' (L.take i ++ ⟨u, v⟩ :: L.drop i) tot := by
  have hlen : (L.take i ++ (⟨u, v⟩ : S56) :: L.drop i).length = L.length + 1 := by simp; have := h.il; omega
  have hl := h.lc
  have hi := h.il
  have hT : cur.toList.length = c * 2 := by rw [Array.length_toList, h.cs]
  refine ⟨_, ?_, blk_set (blk_set h.rb _ _) _ _, h.g0, h.r0, by rw [hlen]; exact h.lc, h.cm, by rw [Array.size_setIfInBounds, Array.size_setIfInBounds]; exact h.cs, ?_⟩
  · rw [hlen]; exact blk_far (blk_far h.gb h.ne _) h.ne _
  · rw [hlen, Array.toList_setIfInBounds, Array.toList_setIfInBounds, set2 _ _ (by omega), List.take_append, List.length_take, Nat.min_eq_left (by omega),
      List.take_of_length_le (by rw [List.length_take]; omega), h.c1, show (L.length + 1) * 2 - i * 2 = (L.length - i) * 2 + 2 by omega, List.take_succ_cons, List.take_succ_cons,
      show i * 2 + 2 = (i + 1) * 2 by omega, h.c2, cl_append]
    rfl
/-- One range is struck: the others go one place down, and the slice is cut. -/
theorem St.struck {w1 : World} (h : St w base g gr c cur L tot) (i : Nat) (hi : i < L.length)
    (hw : w1.heap[gr]? = some (.cells (splice cur.toList (i * 2) (cl (L.drop (i + 1)))).toArray 71 (0, 0))) (hg : w.grownBy w1 (some gr)) :
    St (w1.setCell ⟨g, 0, none⟩ (.slice (some ⟨gr, 0, none⟩) (L.length - 1) c)) base g gr c (splice cur.toList (i * 2) (cl (L.drop (i + 1)))).toArray (L.take i ++ L.drop (i + 1)) tot := by
  have hlen : (L.take i ++ L.drop (i + 1)).length = L.length - 1 := by simp; omega
  have hlc := h.lc
  have hT : cur.toList.length = c * 2 := by rw [Array.length_toList, h.cs]
  have hcl : (cl (L.drop (i + 1))).length = (L.length - (i + 1)) * 2 := by rw [cl_length, List.length_drop]
  have hgb : w1.heap[g]? = some (.cells #[.slice (some ⟨gr, 0, none⟩) L.length c, .int .u64 tot] 84 (0, 0)) := blk_grown h.gb hg (fun e => h.ne (by injection e))
  refine ⟨?_, blk_far hw (fun e => h.ne e.symm) _, h.g0, h.r0, by rw [hlen]; omega, h.cm, ?_, ?_⟩
  · rw [hlen]
    simpa using blk_set hgb 0 (.slice (some ⟨gr, 0, none⟩) (L.length - 1) c)
  · rw [List.size_toArray, length_splice _ _ _ (by omega)]; exact hT
  · rw [hlen]
    simp only [splice]
    have e1 : cur.toList.take (i * 2) = cl (L.take i) := by
      have := congrArg (List.take (i * 2)) h.ct
      rw [List.take_take, Nat.min_eq_left (by omega), cl_take] at this
      exact this
    rw [e1, cl_append]
    exact take_two _ _ _ _ (by rw [hcl, cl_length, List.length_take]; omega)
/-- Room is made within the array: the ranges from i on go one place up. -/
theorem St.room {w1 w2 : World} (h : St w base g gr c cur L tot) (i : Nat) (hi : i ≤ L.length) (hc : L.length + 1 ≤ c) (hw1 : w1.heap[g]? = some (.cells #[.slice (some ⟨gr, 0, none⟩) (L.length + 1) c, .int .u64 tot] 84 (0, 0)))
    (hw : w2.heap[gr]? = some (.cells (splice cur.toList ((i + 1) * 2) (cl (L.drop i))).toArray 71 (0, 0))) (hg : w1.grownBy w2 (some gr)) (hne : g ≠ gr) :
    Hole w2 base g gr c (splice cur.toList ((i + 1) * 2) (cl (L.drop i))).toArray L i tot := by
  have hT : cur.toList.length = c * 2 := by rw [Array.length_toList, h.cs]
  have hcl : (cl (L.drop i)).length = (L.length - i) * 2 := by rw [cl_length, List.length_drop]
  refine ⟨blk_grown hw1 hg (fun e => hne (by injection e)), hw, h.g0, h.r0, hi, hc, h.cm, ?_, ?_, ?_⟩
  · rw [List.size_toArray, length_splice _ _ _ (by omega)]; exact hT
  · simp only [splice]
    rw [List.take_append, List.length_take, Nat.min_eq_left (by omega), show i * 2 - (i + 1) * 2 = 0 by omega, List.take_zero, List.append_nil, List.take_take, Nat.min_eq_left (by omega)]
    have := congrArg (List.take (i * 2)) h.ct
    rw [List.take_take, Nat.min_eq_left (by omega), cl_take] at this
    exact this
  · simp only [splice]
    rw [List.drop_append, List.drop_eq_nil_of_le (by rw [List.length_take]; omega), List.length_take, Nat.min_eq_left (by omega), Nat.sub_self, List.drop_zero, List.nil_append, List.take_append, List.take_of_length_le (by omega), hcl, Nat.sub_self, List.take_zero, List.append_nil]
end
/-- Room is made in a new array: two copies. -/
theorem hole_new {w : World} {base g h c : Nat} {Z : Array Value} {L : List S56} {tot : Int} (i : Nat) (hi : i ≤ L.length) (hg : w.heap[g]? = some (.cells #[.slice (some ⟨h, 0, none⟩) (L.length + 1) c, .int .u64 tot] 84 (0, 0)))
    (hw : w.heap[h]? = some (.cells (splice (splice Z.toList 0 (cl (L.take i))) ((i + 1) * 2) (cl (L.drop i))).toArray 71 (0, 0))) (g0 : base ≤ g) (r0 : base ≤ h) (hc : L.length + 1 ≤ c) (cm : c ≤ 9223372036854775807) (hZ : Z.size = c * 2) :
    Hole w base g h c (splice (splice Z.toList 0 (cl (L.take i))) ((i + 1) * 2) (cl (L.drop i))).toArray L i tot := by
  have hT : Z.toList.length = c * 2 := by rw [Array.length_toList, hZ]
  have hcl : (cl (L.drop i)).length = (L.length - i) * 2 := by rw [cl_length, List.length_drop]
  have hct : (cl (L.take i)).length = i * 2 := by rw [cl_length, List.length_take, Nat.min_eq_left hi]
  have hs1 : (splice Z.toList 0 (cl (L.take i))).length = c * 2 := by rw [length_splice _ _ _ (by omega)]; exact hT
  refine ⟨hg, hw, g0, r0, hi, hc, cm, ?_, ?_, ?_⟩
  · rw [List.size_toArray, length_splice _ _ _ (by omega)]; exact hs1
  · have e1 : (splice Z.toList 0 (cl (L.take i))).take (i * 2) = cl (L.take i) := by
      simp only [splice, List.take_zero, List.nil_append]
      rw [List.take_append, List.take_of_length_le (by omega), hct, Nat.sub_self, List.take_zero, List.append_nil]
    refine Eq.trans ?_ e1
    generalize splice Z.toList 0 (cl (L.take i)) = T at hs1
    simp only [splice]
    rw [List.take_append, List.length_take, Nat.min_eq_left (by omega), show i * 2 - (i + 1) * 2 = 0 by omega, List.take_zero, List.append_nil, List.take_take, Nat.min_eq_left (by omega)]
  · generalize splice Z.toList 0 (cl (L.take i)) = T at hs1
    simp only [splice]
    rw [List.drop_append, List.drop_eq_nil_of_le (by rw [List.length_take]; omega), List.length_take, Nat.min_eq_left (by omega), Nat.sub_self, List.drop_zero, List.nil_append, List.take_append, List.take_of_length_le (by omega), hcl, Nat.sub_self, List.take_zero, List.append_nil]
/-- a.ranges[k:]. -/
theorem slice_from (gr n c k : Nat) (x : Int) (hx : x = (k : Int)) (hk : k ≤ n) (hn : n ≤ c) :
    ∃ A : Option Addr, (k < c → A = some ⟨gr, k * 2, none⟩) ∧ ∀ W : World, (Instr.slice 82 (.slice (some ⟨gr, 0, none⟩) n c) (some (.int .i64 x)) none none).run Try.prog W = .ok (.slice A (n - k) (c - k)) W := by
  by_cases hcp : c = k
  · refine ⟨some ⟨gr, 0, none⟩, by omega, fun W => ?_⟩
    have h1 : (0 : Int) ≤ (k : Int) := by omega
    have h2 : (k : Int) ≤ (n : Int) := by omega
    subst hx
    go_simp
  · refine ⟨some ⟨gr, k * 2, none⟩, fun _ => rfl, fun W => ?_⟩
    have h1 : (0 : Int) ≤ (k : Int) := by omega
    have h2 : (k : Int) ≤ (n : Int) := by omega
    subst hx
    go_simp
theorem info71 : (Try.prog.info? 71).map (fun i => (i.zero, i.size, i.bytes)) = some (some (.agg #[.int .u64 0, .int .u64 0]), 2, 16) := by kernel_rfl
/-- make([]addrRange, n+1, c*2). -/
theorem make82 (n c : Nat) (hn : n + 1 ≤ c * 2) (hc : c ≤ 700) :
    ∃ Z : Array Value, Z.size = c * 2 * 2 ∧ ∀ W : World, (Instr.makeSlice 82 (.int .i64 ((n : Int) + 1)) (.int .i64 ((c : Int) * 2))).run Try.prog W = .ok (.slice (some ⟨W.heap.size, 0, none⟩) (n + 1) (c * 2)) (W.alloc (.cells Z 71)) := by
  obtain ⟨i0, hi, hzz⟩ := Option.map_eq_some_iff.1 info71
  simp only [Prod.mk.injEq] at hzz
  obtain ⟨hz0, hz1, hz2⟩ := hzz
  refine ⟨madeCells #[.int .u64 0, .int .u64 0] (c * 2 * 2), by simp [madeCells], fun W => ?_⟩
  have h := run_make (P := Try.prog) W 82 71 i0 (.agg #[.int .u64 0, .int .u64 0]) Try.underlying82 hi hz0 .i64 .i64 ((n : Int) + 1) ((c : Int) * 2) (by omega) (by omega) (by rw [hz2]; omega) (by omega)
  have e1 : ((n : Int) + 1).toNat = n + 1 := by omega
  have e2 : ((c : Int) * 2).toNat = c * 2 := by omega
  rw [e1, e2, hz1] at h
  exact h
theorem St.cells {w : World} {base g gr c : Nat} {cur : Array Value} {L : List S56} {tot : Int} (h : St w base g gr c cur L tot) (k : Nat) (M : List S56) (hM : (cl L).drop (k * 2) = cl M ∨ ∃ N, (cl L).drop (k * 2) = cl M ++ N) :
    ∀ j v, (cl M)[j]? = some v → w.cell? ((⟨gr, k * 2, none⟩ : Addr).add j) = some v := by
  intro j v hj
  have hlt : j < (cl M).length := (List.getElem?_eq_some_iff.1 hj).1
  have e : (cl L)[k * 2 + j]? = some v := by
    rw [← List.getElem?_drop]
    rcases hM with hM | ⟨N, hM⟩
    · rw [hM]; exact hj
    · rw [hM, List.getElem?_append_left hlt]; exact hj
  have hl : k * 2 + j < L.length * 2 := by
    have := (List.getElem?_eq_some_iff.1 e).1
    rwa [cl_length] at this
  have ea : (⟨gr, k * 2, none⟩ : Addr).add j = ⟨gr, k * 2 + j, none⟩ := by unfold Addr.add; split <;> simp_all
  rw [ea, blk_cell h.rb, h.get _ hl]
  exact e
/-- The same of an array alone: M's cells lie from place k on. -/
theorem cells_of {w : World} {gr n k : Nat} {cur : Array Value} {L M R : List S56} (hr : w.heap[gr]? = some (.cells cur 71 (0, 0))) (hc : cur.toList.take n = cl L) (hM : (cl L).drop (k * 2) = cl M ++ cl R) :
    ∀ j v, (cl M)[j]? = some v → w.cell? ((⟨gr, k * 2, none⟩ : Addr).add j) = some v := by
  intro j v hj
  have hlt : j < (cl M).length := (List.getElem?_eq_some_iff.1 hj).1
  have e : (cl L)[k * 2 + j]? = some v := by
    rw [← List.getElem?_drop, hM, List.getElem?_append_left hlt]; exact hj
  have ea : (⟨gr, k * 2, none⟩ : Addr).add j = ⟨gr, k * 2 + j, none⟩ := by unfold Addr.add; split <;> simp_all
  rw [ea, blk_cell hr]
  rw [← hc, List.getElem?_take] at e
  split at e
  · simpa using e
  · cases e
theorem sumL_at (L : List S56) (i : Nat) (h : i < L.length) : sumL L = sumL (L.take i) + ((getL L i).f1 - (getL L i).f0) + sumL (L.drop (i + 1)) := by
  rw [sumL_split L (i + 1), take_getL L i h, sumL_append]
  simp only [sumL]
  omega
theorem sumL_addL {L : List S56} {b l : Int} : sumL (addL L b l) = sumL L + (l - b) := by
  have hle := succL_le L b
  unfold addL
  by_cases hu : upL L b l = true
  · rw [if_pos hu]
    simp only [upL, Bool.and_eq_true, decide_eq_true_eq] at hu
    by_cases hd : downL L b = true
    · rw [if_pos hd]
      simp only [downL, Bool.and_eq_true, decide_eq_true_eq] at hd
      have h1 := sumL_at L (succL L b) hu.1
      have h2 := sumL_at (L.take (succL L b)) (succL L b - 1) (by rw [List.length_take]; omega)
      rw [getL_take _ _ _ (by rw [List.length_take]; omega), List.take_take, Nat.min_eq_left (by omega), List.drop_eq_nil_of_le (by rw [List.length_take]; omega)] at h2
      rw [sumL_append]
      simp only [sumL] at h2 ⊢
      omega
    · rw [if_neg hd]
      have h1 := sumL_at L (succL L b) hu.1
      rw [sumL_append]
      simp only [sumL]
      omega
  · rw [if_neg hu]
    have h1 := sumL_split L (succL L b)
    by_cases hd : downL L b = true
    · rw [if_pos hd]
      simp only [downL, Bool.and_eq_true, decide_eq_true_eq] at hd
      have h2 := sumL_at (L.take (succL L b)) (succL L b - 1) (by rw [List.length_take]; omega)
      rw [getL_take _ _ _ (by rw [List.length_take]; omega), List.take_take, Nat.min_eq_left (by omega), List.drop_eq_nil_of_le (by rw [List.length_take]; omega)] at h2
      rw [sumL_append]
      simp only [sumL] at h2 ⊢
      omega
    · rw [if_neg hd, sumL_append]
      simp only [sumL]
      omega
end Go.Proofs.Yticjdbdhnfmidaa.K
