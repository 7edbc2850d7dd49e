/-
  What the rounds over the bits compute.
-/
import Derived.Test.YticjdbdhnfmidaaP1
import Derived.Test.YticjdbdhnfmidaaKC
import Derived.Test.YticjdbdhnfmidaaKD
import Derived.Test.YticjdbdhnfmidaaKE
namespace Go.Proofs.Yticjdbdhnfmidaa.Pure
open Go.RowKit Go.Proofs.Yticjdbdhnfmidaa.K Go.Proofs.YticjdbdhnfmidaaW.PrintWords

theorem w64 (n : Int) (h0 : -9223372036854775808 ≤ n) (h1 : n < 9223372036854775808) : wrap64 n = n := by unfold wrap64; omega
theorem w64s (i : Nat) (h : i ≤ 100000) : wrap64 ((i : Int) + 1) = ((i + 1 : Nat) : Int) := by rw [w64 _ (by omega) (by omega)]; omega
theorem w64p (i : Nat) (h : i + 1 ≤ 100000) : wrap64 (((i + 1 : Nat) : Int) - 1) = (i : Int) := by rw [w64 _ (by omega) (by omega)]; omega
theorem u64w (n : Int) (h0 : 0 ≤ n) (h1 : n < 18446744073709551616) : IntKind.u64.wrap n = n := by simp only [IntKind.wrap_u64]; omega
theorem rdOf_nat (bs : List Bool) (i : Nat) : rdOf false bs (i : Int) = bs.getD i false := by simp [rdOf]

/-! Put -/
def putB : List Bool → Nat → Nat → Bool → List Bool
  | bs, _, 0, _ => bs
  | bs, i, m + 1, v => putB (bs.set i v) (i + 1) m v
theorem putB_len (v : Bool) : ∀ m i bs, (putB bs i m v).length = bs.length
  | 0, _, _ => rfl
  | m + 1, i, bs => by rw [putB, putB_len v m]; simp
theorem putB_get (v : Bool) (j : Nat) : ∀ m i bs, i + m ≤ bs.length → (putB bs i m v).getD j false = if i ≤ j ∧ j < i + m then v else bs.getD j false
  | 0, i, bs, _ => by rw [putB, if_neg (by omega)]
  | m + 1, i, bs, h => by
    rw [putB, putB_get v j m (i + 1) _ (by simp; omega)]
    simp only [List.getD_eq_getElem?_getD, List.getElem?_set]
    by_cases h1 : i + 1 ≤ j ∧ j < i + 1 + m
    · rw [if_pos h1, if_pos (by omega)]
    · rw [if_neg h1]
      by_cases h2 : i = j
      · subst h2
        rw [if_pos rfl, if_pos (by omega), if_pos (by omega)]
        rfl
      · rw [if_neg h2, if_neg (by omega)]
theorem put_ev (a n : Int) (v : Bool) (e : Nat) (he : wrap64 (a + n) = (e : Int)) : ∀ m i bs, i + m = e → e ≤ bs.length → bs.length ≤ 1000 → Ev (fun k => spec_Put.l0 k bs a n v (i : Int)) (putB bs i m v)
  | 0, i, bs, h, h1, h2 => Ev.step (f := fun _ => some bs) (fun k => by rw [spec_Put.l0, he, if_neg (by omega)]) (Ev.now _)
  | m + 1, i, bs, h, h1, h2 => Ev.step (f := fun k => spec_Put.l0 k (bs.set i v) a n v ((i + 1 : Nat) : Int)) (fun k => by
      rw [spec_Put.l0, he, if_pos (by omega), if_pos (by omega), if_pos (by omega), w64s i (by omega), Int.toNat_natCast])
      (put_ev a n v e he m (i + 1) _ (by omega) (by simpa using h1) (by simpa using h2))
theorem put_f (bs : List Bool) (a n : Nat) (v : Bool) (h : a + n ≤ bs.length) (h2 : bs.length ≤ 1000) : Ev (fun k => spec_Put.f k bs (a : Int) (n : Int) v) (putB bs a n v) :=
  put_ev (a : Int) (n : Int) v (a + n) (by rw [w64 _ (by omega) (by omega)]; omega) n a bs rfl h h2

/-! Free -/
theorem free_ev (s : List Bool) (hs : s.length ≤ 1000) : ∀ m i, i + m = s.length → Ev (fun k => spec_Free.l0 k s (s.length : Int) (i : Int)) (!(s.drop i).any id)
  | 0, i, h => Ev.step (f := fun _ => some true) (fun k => by rw [spec_Free.l0, if_neg (by omega)]) (by
      rw [List.drop_eq_nil_of_le (by omega)]; exact Ev.now _)
  | m + 1, i, h => by
    have hd : s.drop i = s[i]'(by omega) :: s.drop (i + 1) := List.drop_eq_getElem_cons (by omega)
    have hg : s.getD i false = s[i]'(by omega) := by simp [List.getD_eq_getElem?_getD, List.getElem?_eq_getElem (show i < s.length by omega)]
    rw [hd, List.any_cons]
    cases hb : s[i]'(by omega) with
    | true =>
      refine Ev.step (f := fun _ => some false) (fun k => by
        rw [spec_Free.l0, if_pos (by omega), if_pos (by omega), if_pos (by omega), rdOf_nat, hg, hb, if_pos rfl]) (Ev.now _)
    | false =>
      refine Ev.step (f := fun k => spec_Free.l0 k s (s.length : Int) ((i + 1 : Nat) : Int)) (fun k => by
        rw [spec_Free.l0, if_pos (by omega), if_pos (by omega), if_pos (by omega), rdOf_nat, hg, hb, if_neg (by decide), w64s i (by omega)]) ?_
      exact free_ev s hs m (i + 1) (by omega)
theorem free_f (bs : List Bool) (a n : Nat) (h : a + n ≤ bs.length) (h2 : bs.length ≤ 1000) :
    ∃ r, Ev (fun k => spec_Free.f k bs (a : Int) (n : Int)) r ∧ (r = true → ∀ j, a ≤ j → j < a + n → bs.getD j false = false) := by
  have he : wrap64 ((a : Int) + (n : Int)) = ((a + n : Nat) : Int) := by rw [w64 _ (by omega) (by omega)]; omega
  refine ⟨_, Ev.congr (f := fun k => spec_Free.l0 k ((bs.take (a + n)).drop a) (((bs.take (a + n)).drop a).length : Int) ((0 : Nat) : Int)) (fun k => by
    rw [spec_Free.f, he, if_pos (by omega), if_pos (by omega), if_pos (by omega), Int.toNat_natCast, Int.toNat_natCast]; rfl)
    (free_ev _ (by simp; omega) _ 0 (Nat.zero_add _)), fun hr j h3 h4 => ?_⟩
  rw [List.drop_zero, Bool.not_eq_true', List.any_eq_false] at hr
  cases hb : bs.getD j false with
  | false => rfl
  | true =>
    exfalso
    refine hr true ?_ rfl
    have hj : bs[j]? = some true := by
      rw [List.getD_eq_getElem?_getD] at hb
      cases hq : bs[j]? with
      | none => rw [hq] at hb; simp at hb
      | some q => rw [hq] at hb; simp at hb; rw [hb]
    refine List.mem_of_getElem? (i := j - a) ?_
    rw [List.getElem?_drop, show a + (j - a) = j by omega, List.getElem?_take, if_pos (by omega)]
    exact hj

/-! Count -/
theorem count_ev (bs : List Bool) (hs : bs.length ≤ 1000) : ∀ m i, i + m = bs.length → Ev (fun k => spec_Count.l0 k (cnt (fun j => bs.getD j false) i : Int) bs (bs.length : Int) (i : Int)) (cnt (fun j => bs.getD j false) bs.length : Int)
  | 0, i, h => Ev.step (f := fun _ => some _) (fun k => by rw [spec_Count.l0, if_neg (by omega), show i = bs.length by omega]) (Ev.now _)
  | m + 1, i, h => by
    have hc : ∀ n, cnt (fun j => bs.getD j false) n ≤ n := by
      intro n
      induction n with
      | zero => exact Nat.le_refl _
      | succ n ih => simp only [cnt]; split <;> omega
    have hci := hc i
    cases hb : bs.getD i false with
    | true =>
      refine Ev.step (f := fun k => spec_Count.l0 k (cnt (fun j => bs.getD j false) (i + 1) : Int) bs (bs.length : Int) ((i + 1 : Nat) : Int)) (fun k => by
        rw [spec_Count.l0, if_pos (by omega), if_pos (by omega), if_pos (by omega), rdOf_nat, hb, if_pos rfl, w64s i (by omega), u64w _ (by omega) (by omega)]
        congr 1
        simp only [cnt]
        rw [if_pos hb]
        omega) (count_ev bs hs m (i + 1) (by omega))
    | false =>
      refine Ev.step (f := fun k => spec_Count.l0 k (cnt (fun j => bs.getD j false) (i + 1) : Int) bs (bs.length : Int) ((i + 1 : Nat) : Int)) (fun k => by
        rw [spec_Count.l0, if_pos (by omega), if_pos (by omega), if_pos (by omega), rdOf_nat, hb, if_neg (by decide), w64s i (by omega)]
        congr 1
        simp only [cnt]
        rw [if_neg (by rw [hb]; decide)]
        omega) (count_ev bs hs m (i + 1) (by omega))
theorem count_f (bs : List Bool) (hs : bs.length ≤ 1000) : Ev (fun k => spec_Count.f k bs) (cnt (fun j => bs.getD j false) bs.length : Int) :=
  count_ev bs hs bs.length 0 (Nat.zero_add _)

/-! Next -/
theorem next_ev (bs : List Bool) (hs : bs.length ≤ 1000) (t : Nat) (r : Int) (ht : (t = bs.length ∧ r = -1) ∨ (t < bs.length ∧ bs.getD t false = true ∧ r = (t : Int))) :
    ∀ m i, i + m = t → (∀ j, i ≤ j → j < t → bs.getD j false = false) → Ev (fun k => spec_Next.l0 k bs (i : Int)) r
  | 0, i, h, _ => by
    obtain rfl : i = t := by omega
    rcases ht with ⟨h1, h2⟩ | ⟨h1, h2, h3⟩
    · exact Ev.step (f := fun _ => some r) (fun k => by rw [spec_Next.l0, if_neg (by omega), h2]) (Ev.now _)
    · exact Ev.step (f := fun _ => some r) (fun k => by rw [spec_Next.l0, if_pos (by omega), if_pos (by omega), rdOf_nat, h2, if_pos rfl, h3]) (Ev.now _)
  | m + 1, i, h, hf => by
    have hb := hf i (Nat.le_refl _) (by omega)
    have htl : t ≤ bs.length := by omega
    exact Ev.step (f := fun k => spec_Next.l0 k bs ((i + 1 : Nat) : Int)) (fun k => by
      rw [spec_Next.l0, if_pos (by omega), if_pos (by omega), rdOf_nat, hb, if_neg (by decide), w64s i (by omega)])
      (next_ev bs hs t r ht m (i + 1) (by omega) (fun j h1 h2 => hf j (by omega) h2))

/-! Same -/
theorem same_ev (xs : List S35) (hs : xs.length ≤ 1000) : ∀ m i, i + m = xs.length → Ev (fun k => spec_Same.l0 k xs xs (i : Int)) true
  | 0, i, h => Ev.step (f := fun _ => some true) (fun k => by rw [spec_Same.l0, if_neg (by omega)]) (Ev.now _)
  | m + 1, i, h => Ev.step (f := fun k => spec_Same.l0 k xs xs ((i + 1 : Nat) : Int)) (fun k => by
      rw [spec_Same.l0, if_pos (by omega), if_pos (by omega), if_pos (by omega), w64s i (by omega)]
      simp) (same_ev xs hs m (i + 1) (by omega))
theorem same_f (xs : List S35) (hs : xs.length ≤ 1000) : Ev (fun k => spec_Same.f k xs xs) true :=
  Ev.congr (f := fun k => spec_Same.l0 k xs xs ((0 : Nat) : Int)) (fun k => by rw [spec_Same.f, if_pos rfl]; rfl) (same_ev xs hs _ 0 (Nat.zero_add _))

/-! The struct conversions -/
def c35 (x : S56) : S35 := ⟨x.f0, x.f1⟩
def c56 (x : S35) : S56 := ⟨x.f0, x.f1⟩
theorem c56_c35 (L : List S56) : (L.map c35).map c56 = L := by
  rw [List.map_map]
  exact (List.map_congr_left (fun x _ => rfl)).trans (List.map_id L)
theorem rd35_nat (xs : List S35) (i : Nat) (h : i < xs.length) : rd_T35 xs (i : Int) = xs[i]'h := by simp [rd_T35, List.getD_eq_getElem?_getD, List.getElem?_eq_getElem h]
theorem rd56_nat (xs : List S56) (i : Nat) (h : i < xs.length) : rd_T56 xs (i : Int) = xs[i]'h := by simp [rd_T56, List.getD_eq_getElem?_getD, List.getElem?_eq_getElem h]
theorem given_ev (xs : List S35) (hs : xs.length ≤ 1000) : ∀ m i, i + m = xs.length → Ev (fun k => impl_given.l0 k ((xs.take i).map c56) xs (xs.length : Int) (i : Int)) (xs.map c56)
  | 0, i, h => Ev.step (f := fun _ => some _) (fun k => by rw [impl_given.l0, if_neg (by omega), List.take_of_length_le (by omega)]) (Ev.now _)
  | m + 1, i, h => Ev.step (f := fun k => impl_given.l0 k ((xs.take (i + 1)).map c56) xs (xs.length : Int) ((i + 1 : Nat) : Int)) (fun k => by
      rw [impl_given.l0, if_pos (by omega), if_pos (by omega), if_pos (by omega), if_pos (by simp; omega), w64s i (by omega), rd35_nat _ _ (by omega), List.take_succ_eq_append_getElem (by omega), List.map_append]
      rfl) (given_ev xs hs m (i + 1) (by omega))
theorem given_f (xs : List S35) (hs : xs.length ≤ 1000) : Ev (fun k => impl_given.f k xs) (xs.map c56) := given_ev xs hs _ 0 (Nat.zero_add _)
theorem told_ev (xs : List S56) (hs : xs.length ≤ 1000) : ∀ m i, i + m = xs.length → Ev (fun k => impl_told.l0 k ((xs.take i).map c35) xs (xs.length : Int) (i : Int)) (xs.map c35)
  | 0, i, h => Ev.step (f := fun _ => some _) (fun k => by rw [impl_told.l0, if_neg (by omega), List.take_of_length_le (by omega)]) (Ev.now _)
  | m + 1, i, h => Ev.step (f := fun k => impl_told.l0 k ((xs.take (i + 1)).map c35) xs (xs.length : Int) ((i + 1 : Nat) : Int)) (fun k => by
      rw [impl_told.l0, if_pos (by omega), if_pos (by omega), if_pos (by omega), if_pos (by simp; omega), w64s i (by omega), rd56_nat _ _ (by omega), List.take_succ_eq_append_getElem (by omega), List.map_append]
      rfl) (told_ev xs hs m (i + 1) (by omega))
theorem told_f (xs : List S56) (hs : xs.length ≤ 1000) : Ev (fun k => impl_told.f k xs) (xs.map c35) := told_ev xs hs _ 0 (Nat.zero_add _)

/-! Last -/
theorem last1_ev (bs : List Bool) (hs : bs.length ≤ 1000) (n : Int) (t lo : Nat) (htl : t ≤ bs.length) (hend : lo = 0 ∨ bs.getD (lo - 1) false = false ∨ n ≤ (t : Int) - (lo : Int)) :
    ∀ m j, lo + m = j → j ≤ t → (∀ i, lo ≤ i → i < j → bs.getD i false = true) → (lo < j → (t : Int) - ((lo + 1 : Nat) : Int) < n) → Ev (fun k => spec_Last.l1 k bs n (t : Int) (j : Int)) ((lo : Int), (t : Int) - (lo : Int))
  | 0, j, h, hj, hb, hn => by
    obtain rfl : j = lo := by omega
    have hw : wrap64 ((t : Int) - (j : Int)) = (t : Int) - (j : Int) := w64 _ (by omega) (by omega)
    by_cases h0 : j = 0
    · subst h0
      exact Ev.step (f := fun _ => some _) (fun k => by rw [spec_Last.l1, if_neg (by omega), hw]) (Ev.now _)
    · obtain ⟨q, rfl⟩ : ∃ q, j = q + 1 := ⟨j - 1, by omega⟩
      by_cases h1 : bs.getD q false = true
      · have h2 : n ≤ (t : Int) - ((q + 1 : Nat) : Int) := by
          rcases hend with h3 | h3 | h3
          · omega
          · rw [show q + 1 - 1 = q by omega, h1] at h3; exact absurd h3 (by decide)
          · exact h3
        exact Ev.step (f := fun _ => some _) (fun k => by
          rw [spec_Last.l1, if_pos (by omega), w64p q (by omega), if_pos (by omega), if_pos (by omega), rdOf_nat, if_pos h1, hw, if_neg (by omega)]) (Ev.now _)
      · exact Ev.step (f := fun _ => some _) (fun k => by
          rw [spec_Last.l1, if_pos (by omega), w64p q (by omega), if_pos (by omega), if_pos (by omega), rdOf_nat, if_neg h1, hw]) (Ev.now _)
  | m + 1, j, h, hj, hb, hn => by
    obtain ⟨q, rfl⟩ : ∃ q, j = q + 1 := ⟨j - 1, by omega⟩
    have h1 := hb q (by omega) (by omega)
    have h2 := hn (by omega)
    refine Ev.step (f := fun k => spec_Last.l1 k bs n (t : Int) (q : Int)) (fun k => by
      rw [spec_Last.l1, if_pos (by omega), w64p q (by omega), if_pos (by omega), if_pos (by omega), rdOf_nat, if_pos h1, w64 _ (by omega) (by omega), if_pos (by omega)]) ?_
    exact last1_ev bs hs n t lo htl hend m q (by omega) (by omega) (fun i h3 h4 => hb i h3 (by omega)) (fun h3 => h2)
theorem last0_ev (bs : List Bool) (hs : bs.length ≤ 1000) (n : Int) (t : Nat) (r : Int × Int) (ht : bs.getD t false = true) (hr : Ev (fun k => spec_Last.l1 k bs n ((t + 1 : Nat) : Int) ((t + 1 : Nat) : Int)) r) :
    ∀ m j, t + 1 + m = j → j ≤ bs.length → (∀ i, t < i → i < j → bs.getD i false = false) → Ev (fun k => spec_Last.l0 k bs n (j : Int)) r
  | 0, j, h, hj, hb => by
    obtain rfl : j = t + 1 := by omega
    exact Ev.step (fun k => by rw [spec_Last.l0, w64p t (by omega), if_pos (by omega), if_pos (by omega), rdOf_nat, if_pos ht]) hr
  | m + 1, j, h, hj, hb => by
    obtain ⟨q, rfl⟩ : ∃ q, j = q + 1 := ⟨j - 1, by omega⟩
    have h1 := hb q (by omega) (by omega)
    refine Ev.step (f := fun k => spec_Last.l0 k bs n (q : Int)) (fun k => by
      rw [spec_Last.l0, w64p q (by omega), if_pos (by omega), if_pos (by omega), rdOf_nat, if_neg (by rw [h1]; decide)]) ?_
    exact last0_ev bs hs n t r ht hr m q (by omega) (by omega) (fun i h3 h4 => hb i h3 (by omega))
end Go.Proofs.Yticjdbdhnfmidaa.Pure
