/-
  The plain law: whatever the script, every answer of the list is the bits' answer.
-/
import Derived.Test.YticjdbdhnfmidaaP4
import Derived.Test.YticjdbdhnfmidaaKL
namespace Go.Proofs.Yticjdbdhnfmidaa.Pure
open Go.RowKit Go.Proofs.Yticjdbdhnfmidaa.K Go.Proofs.YticjdbdhnfmidaaW.PrintWords

section
variable {L : List S56} {bs : List Bool} {T : List S28} {x20 o0 o2 : Int} {i a : Nat}
theorem tail_in (h : Rep L bs) (hl : bs.length = 600) (ha : a < 600) (hi : i ≤ 1000) (hn : Ev (fun k => laws_FnScriptWhole.l0 k bs (L.map c35) T x20 ((i + 1 : Nat) : Int)) true) :
    Ev (fun k => (impl_InList.f k (L.map c35) (IntKind.u64.wrap (a : Int))).bind fun t298 => (if 0 ≤ (a : Int) then (if (a : Int) < (bs.length : Int) then (if (t298 != (rdOf false bs (a : Int))) = true then (some false) else (laws_FnScriptWhole.l0 k bs (L.map c35) T x20 (wrap64 ((i : Int) + 1)))) else (none)) else (none))) true := by
  rw [u64w _ (by omega) (by omega)]
  refine Ev.bind (impl_in_ev L (a : Int) _ (by have := h.len; omega) (h.inList a (by omega))) ?_
  refine Ev.congr (fun k => ?_) hn
  rw [if_pos (by omega), if_pos (by omega), rdOf_nat, bne_self_eq_false, if_neg (by decide), w64s i (by omega)]
theorem j5_ev (h : Rep L bs) (hl : bs.length = 600) (ha : a < 600) (hi : i ≤ 1000) (hn : Ev (fun k => laws_FnScriptWhole.l0 k bs (L.map c35) T x20 ((i + 1 : Nat) : Int)) true) :
    Ev (fun k => laws_FnScriptWhole.j5 k bs (L.map c35) T x20 (i : Int) false o0 (a : Int) o2) true :=
  Ev.step (fun k => by rw [laws_FnScriptWhole.j5, if_neg (by decide)]) (tail_in h hl ha hi hn)
theorem j4_ev (h : Rep L bs) (hl : bs.length = 600) (ha : a < 600) (hi : i ≤ 1000) (hn : Ev (fun k => laws_FnScriptWhole.l0 k bs (L.map c35) T x20 ((i + 1 : Nat) : Int)) true) :
    Ev (fun k => laws_FnScriptWhole.j4 k bs (L.map c35) T x20 (i : Int) false o0 (a : Int) o2) true := by
  refine Ev.step (fun k => by rw [laws_FnScriptWhole.j4, if_neg (by decide)]) ?_
  by_cases hp : 0 < L.length
  · obtain ⟨t, r, h1, h2, h3, h4⟩ := h.find hl hp a ha
    refine Ev.bind (next_ev bs (by omega) t r h1 (t - a) a (by omega) h3) ?_
    refine Ev.congr (fun k => if_pos (by simpa using hp)) ?_
    rw [u64w _ (by omega) (by omega)]
    refine Ev.bind (impl_find_ev L (a : Int) _ (by have := h.len; omega) h4) ?_
    rcases h1 with ⟨ht, rfl⟩ | ⟨ht, _, rfl⟩
    · refine Ev.congr (fun k => ?_) (j5_ev (o0 := o0) (o2 := o2) h hl ha hi hn)
      rfl
    · have e1 : (decide ((t : Int) ≥ 0)) = true := decide_eq_true (by omega)
      refine Ev.congr (fun k => ?_) (j5_ev (o0 := o0) (o2 := o2) h hl ha hi hn)
      rw [if_neg (show ¬ (t : Int) = -1 by omega), e1, if_neg (by simp), if_pos rfl, u64w _ (by omega) (by omega), bne_self_eq_false]
  · have hL : L = [] := List.eq_nil_of_length_eq_zero (by omega)
    subst hL
    refine Ev.bind (next_ev bs (by omega) bs.length (-1) (.inl ⟨rfl, rfl⟩) (bs.length - a) a (by omega) (fun j _ _ => by rw [← h.mem]; rfl)) ?_
    refine Ev.congr (fun k => if_neg (by simp)) ?_
    exact tail_in h hl ha hi hn
theorem j3_ev (h : Rep L bs) (hl : bs.length = 600) (ha : a < 600) (hi : i ≤ 1000) (hn : Ev (fun k => laws_FnScriptWhole.l0 k bs (L.map c35) T x20 ((i + 1 : Nat) : Int)) true) :
    Ev (fun k => laws_FnScriptWhole.j3 k bs (L.map c35) (sumL L) T x20 (i : Int) o0 (a : Int) o2) true := by
  refine Ev.step (fun k => by rw [laws_FnScriptWhole.j3]) ?_
  refine Ev.bind (runs_f bs (by omega) h) ?_
  refine Ev.bind (same_f (L.map c35) (by have := h.len; simp; omega)) ?_
  refine Ev.congr (fun k => if_pos rfl) ?_
  refine Ev.bind (count_f bs (by omega)) ?_
  rw [h.count hl]
  refine Ev.congr (fun k => by rw [bne_self_eq_false]) ?_
  exact j4_ev h hl ha hi hn
end
theorem rd28_nat (xs : List S28) (i : Nat) (h : i < xs.length) : rd_T28 xs (i : Int) = xs[i]'h := by simp [rd_T28, List.getD_eq_getElem?_getD, List.getElem?_eq_getElem h]

theorem loop_ev (T : List S28) (hT : ∀ o ∈ T, fitOp o) (hTl : T.length ≤ 80) : ∀ m i L bs, i + m = T.length → Rep L bs → bs.length = 600 →
    Ev (fun k => laws_FnScriptWhole.l0 k bs (L.map c35) T (T.length : Int) (i : Int)) true
  | 0, i, L, bs, h, hr, hl => Ev.step (f := fun _ => some true) (fun k => by
      rw [laws_FnScriptWhole.l0, if_neg (by omega), impl_make 2 5 (by decide) (by decide) (by decide) (by decide), Option.bind_some, impl_size, Option.bind_some]
      rfl) (Ev.now _)
  | m + 1, i, L, bs, h, hr, hl => by
    have hlen := hr.len
    have hi : i < T.length := by omega
    have ho := hT (T[i]'hi) (List.getElem_mem hi)
    have ih : ∀ L' bs', Rep L' bs' → bs'.length = 600 → Ev (fun k => laws_FnScriptWhole.l0 k bs' (L'.map c35) T (T.length : Int) ((i + 1 : Nat) : Int)) true := fun L' bs' h1 h2 => loop_ev T hT hTl m (i + 1) L' bs' (by omega) h1 h2
    have e0 := rd28_nat T i hi
    obtain ⟨⟨o0, o1, o2⟩, hoe⟩ : ∃ o, o = T[i]'hi := ⟨_, rfl⟩
    rw [← hoe] at ho e0
    obtain ⟨k0, p0, p1, q0, q1⟩ := ho
    change o0 = 0 ∨ o0 = 1 ∨ o0 = 2 at k0
    change 1 ≤ o1 at p0
    change o1 ≤ 511 at p1
    change 1 ≤ o2 at q0
    change o2 ≤ 40 at q1
    clear hoe
    obtain ⟨a, rfl⟩ := Int.eq_ofNat_of_zero_le (show 0 ≤ o1 by omega)
    obtain ⟨n, rfl⟩ := Int.eq_ofNat_of_zero_le (show 0 ≤ o2 by omega)
    have hsum : wrap64 ((a : Int) + (n : Int)) = (a : Int) + (n : Int) := w64 _ (by omega) (by omega)
    -- the operation of no place: nothing is done
    have stay : ∀ o0 : Int, Ev (fun k => laws_FnScriptWhole.j2 k bs (L.map c35) T (T.length : Int) (i : Int) false o0 (a : Int) (n : Int)) true := by
      intro o0
      refine Ev.step (fun k => by rw [laws_FnScriptWhole.j2, if_neg (by decide)]) ?_
      refine Ev.bind (count_f bs (by omega)) ?_
      rw [hr.count hl]
      exact j3_ev hr hl (by omega) (by omega) (ih L bs hr hl)
    -- removing at the end
    have last : Ev (fun k => laws_FnScriptWhole.j2 k bs (L.map c35) T (T.length : Int) (i : Int) (decide (((L.map c35).length : Int) > 0)) 2 (a : Int) (n : Int)) true := by
      by_cases hp : 0 < L.length
      · rw [decide_eq_true (by simpa using hp)]
        obtain ⟨lo, t, M, h1, h2, h3, h4, h5⟩ := hr.last hl hp (n : Int) (by omega) (by omega)
        refine Ev.step (fun k => by rw [laws_FnScriptWhole.j2, if_pos rfl]) ?_
        refine Ev.bind h3 ?_
        have e1 : (t : Int) - (lo : Int) = ((t - lo : Nat) : Int) := by omega
        have hput := put_f bs lo (t - lo) false (by omega) (by omega)
        rw [← e1] at hput
        refine Ev.bind hput ?_
        rw [u64w (n : Int) (by omega) (by omega)]
        refine Ev.bind (impl_last_ev L M (n : Int) (sumL M) (lo : Int) (t : Int) (by omega) (by have := h5.len; omega) h4) ?_
        have e2 : wrap64 ((lo : Int) + ((t : Int) - (lo : Int))) = (t : Int) := by rw [w64 _ (by omega) (by omega)]; omega
        refine Ev.congr (fun k => ?_) (j3_ev (T := T) (x20 := (T.length : Int)) (o0 := 2) (o2 := (n : Int)) (i := i) (a := a) h5 (by rw [putB_len]; exact hl) (by omega) (by omega) (ih M _ h5 (by rw [putB_len]; exact hl)))
        simp only [e2]
        rw [u64w (lo : Int) (by omega) (by omega), u64w (t : Int) (by omega) (by omega)]
        simp
      · rw [decide_eq_false (by simpa using hp)]
        exact stay 2
    -- no adding
    have rest : Ev (fun k => laws_FnScriptWhole.j1 k bs (L.map c35) T (T.length : Int) (i : Int) false o0 (a : Int) (n : Int)) true := by
      rcases k0 with rfl | rfl | rfl
      · refine Ev.step (fun k => by rw [laws_FnScriptWhole.j1, if_neg (by decide), if_neg (by decide), if_neg (by decide)]) (stay 0)
      · refine Ev.step (fun k => by rw [laws_FnScriptWhole.j1, if_neg (by decide), if_pos rfl]) ?_
        have e1 : wrap64 (600 - (a : Int)) = ((600 - a : Nat) : Int) := by rw [w64 _ (by omega) (by omega)]; omega
        rw [e1, u64w (a : Int) (by omega) (by omega)]
        refine Ev.bind (put_f bs a (600 - a) false (by omega) (by omega)) ?_
        have h5 := hr.cut a (600 - a) (by omega) (by omega)
        refine Ev.bind (impl_cut_ev L (cutL L (a : Int)) (a : Int) (sumL (cutL L (a : Int))) (by omega) (by have := h5.len; omega) ?_) ?_
        · unfold mranges_CutFrom.f
          rw [if_pos ⟨fitL_of hr.ok, by omega, by omega⟩]
        · exact j3_ev h5 (by rw [putB_len]; exact hl) (by omega) (by omega) (ih _ _ h5 (by rw [putB_len]; exact hl))
      · exact Ev.step (fun k => by rw [laws_FnScriptWhole.j1, if_neg (by decide), if_neg (by decide), if_pos rfl]) last
    refine Ev.step (fun k => by rw [laws_FnScriptWhole.l0, if_pos (by omega), if_pos (by omega), if_pos (by omega), e0]) ?_
    by_cases h0 : o0 = 0
    · subst h0
      refine Ev.congr (fun k => if_pos rfl) ?_
      obtain ⟨r, h1, h2⟩ := free_f bs a n (by omega) (by omega)
      refine Ev.bind h1 ?_
      cases r with
      | false => exact rest
      | true =>
        have hf := h2 rfl
        refine Ev.step (fun k => by rw [laws_FnScriptWhole.j1, if_pos rfl]) ?_
        refine Ev.bind (put_f bs a n true (by omega) (by omega)) ?_
        rw [hsum, u64w (a : Int) (by omega) (by omega), u64w ((a : Int) + (n : Int)) (by omega) (by omega)]
        refine Ev.congr (fun k => by rw [impl_make _ _ (by omega) (by omega) (by omega) (by omega), Option.bind_some]) ?_
        have h5 := hr.add a n (by omega) (by omega) (by omega) hf
        refine Ev.bind (impl_add_ev L (addL L (a : Int) ((a : Int) + (n : Int))) (a : Int) ((a : Int) + (n : Int)) (sumL (addL L (a : Int) ((a : Int) + (n : Int)))) (by omega) (by have := h5.len; omega) ?_) ?_
        · unfold mranges_Add.f
          rw [if_pos ⟨fitL_of hr.ok, by omega, by omega, by omega⟩]
        · exact j3_ev h5 (by rw [putB_len]; exact hl) (by omega) (by omega) (ih _ _ h5 (by rw [putB_len]; exact hl))
    · refine Ev.congr (fun k => if_neg h0) ?_
      exact rest

theorem replicate_getD (n i : Nat) : (List.replicate n false).getD i false = false := by
  rw [List.getD_eq_getElem?_getD, List.getElem?_replicate]
  split <;> rfl
theorem FnScriptWhole : laws_FnScriptWhole.Pure := by
  intro l0 _ _ hx
  refine Ev.rounds (g := fun k => laws_FnScriptWhole.f k l0) ?_
  unfold laws_FnScriptWhole.f
  by_cases hbig : (l0.length : Int) > 2147483647
  · exact Ev.congr (fun k => if_pos hbig) (Ev.now _)
  · refine Ev.congr (fun k => by rw [if_neg hbig, if_pos (by decide)]) ?_
    obtain ⟨T, h1, h2, h3⟩ := script_f l0 (by omega) hx
    refine Ev.bind h1 ?_
    exact loop_ev T h2 h3 T.length 0 [] (List.replicate 600 false) (Nat.zero_add _) ⟨rfl, fun i => (replicate_getD 600 i).symm⟩ List.length_replicate
end Go.Proofs.Yticjdbdhnfmidaa.Pure
