/-
  What the hand-proved functions of this claim compute, as plain Lean functions on lists of ranges (spec.Free's rounds are lines that the kit's print has written for this claim).
-/
import Derived.Test.YticjdbdhnfmidaaK0
namespace Go.Proofs.Yticjdbdhnfmidaa.K
open Go.RowKit Go.Proofs.YticjdbdhnfmidaaW.PrintWords Go.Proofs.YticjdbdhnfmidaaW.PrintLast Go.Proofs.YticjdbdhnfmidaaW.PrintMore

/-- Ascending, none empty, gaps between them, all above lo, and none beyond 1000. -/
def okL : Int → List S56 → Bool
  | _, [] => true
  | lo, x :: r => decide (lo < x.f0) && (decide (x.f0 < x.f1) && (decide (x.f1 ≤ 1000) && okL x.f1 r))
/-- How many addresses. -/
def sumL : List S56 → Int
  | [] => 0
  | x :: r => (x.f1 - x.f0) + sumL r
/-- The first index whose base is above a. -/
def succL : List S56 → Int → Nat
  | [], _ => 0
  | x :: r, a => if a < x.f0 then 0 else succL r a + 1
/-- A list that the walks speak of. -/
def fitL (L : List S56) : Bool := okL (-1) L && decide (L.length ≤ 600)
def getL (L : List S56) (i : Nat) : S56 := L.getD i z56
def downL (L : List S56) (b : Int) : Bool := decide (0 < succL L b) && decide ((getL L (succL L b - 1)).f1 = b)
def upL (L : List S56) (b l : Int) : Bool := decide (succL L b < L.length) && decide (l = (getL L (succL L b)).f0)
def addL (L : List S56) (b l : Int) : List S56 :=
  if upL L b l = true then
    if downL L b = true then L.take (succL L b - 1) ++ ⟨(getL L (succL L b - 1)).f0, (getL L (succL L b)).f1⟩ :: L.drop (succL L b + 1)
    else L.take (succL L b) ++ ⟨b, (getL L (succL L b)).f1⟩ :: L.drop (succL L b + 1)
  else if downL L b = true then L.take (succL L b - 1) ++ ⟨(getL L (succL L b - 1)).f0, l⟩ :: L.drop (succL L b)
  else L.take (succL L b) ++ ⟨b, l⟩ :: L.drop (succL L b)
def hasR (x : S56) (a : Int) : Bool := decide (x.f0 ≤ a) && decide (a < x.f1)
def cutL (L : List S56) (a : Int) : List S56 :=
  if succL L a = 0 then []
  else if hasR (getL L (succL L a - 1)) a = true then
    if a ≤ (getL L (succL L a - 1)).f0 then L.take (succL L a - 1) else L.take (succL L a - 1) ++ [⟨(getL L (succL L a - 1)).f0, a⟩]
  else L.take (succL L a)
def lastL (L : List S56) : S56 := getL L (L.length - 1)
def mranges_makeAddrRange.f (a b : Int) : Option (Int × Int) := if 0 ≤ a ∧ a ≤ 1000 ∧ 0 ≤ b ∧ b ≤ 1000 then some (a, b) else none
def mranges_Add.f (L : List S56) (b l : Int) : Option (List S56 × Int) :=
  if fitL L = true ∧ 0 ≤ b ∧ b < l ∧ l ≤ 1000 then some (addL L b l, sumL (addL L b l)) else none
def mranges_CutFrom.f (L : List S56) (a : Int) : Option (List S56 × Int) :=
  if fitL L = true ∧ 0 ≤ a ∧ a ≤ 1000 then some (cutL L a, sumL (cutL L a)) else none
def mranges_RemoveLast.f (L : List S56) (n : Int) : Option (List S56 × Int × Int × Int) :=
  if fitL L = true ∧ 0 < L.length ∧ 0 ≤ n ∧ n ≤ 1000 then
    if n < (lastL L).f1 - (lastL L).f0 then some (L.take (L.length - 1) ++ [⟨(lastL L).f0, (lastL L).f1 - n⟩], sumL (L.take (L.length - 1) ++ [⟨(lastL L).f0, (lastL L).f1 - n⟩]), (lastL L).f1 - n, (lastL L).f1)
    else some (L.take (L.length - 1), sumL (L.take (L.length - 1)), (lastL L).f0, (lastL L).f1)
  else none
def mranges_FindAddrGreaterEqual.f (L : List S56) (a : Int) : Option (Int × Bool) :=
  if fitL L = true ∧ 0 < L.length ∧ 0 ≤ a ∧ a ≤ 1000 then
    if succL L a = 0 then some ((getL L 0).f0, true)
    else if hasR (getL L (succL L a - 1)) a = true then some (a, true)
    else if succL L a < L.length then some ((getL L (succL L a)).f0, true)
    else some (0, false)
  else none
def mranges_InList.f (L : List S56) (a : Int) : Option Bool :=
  if fitL L = true ∧ 0 ≤ a ∧ a ≤ 1000 then some (if succL L a = 0 then false else hasR (getL L (succL L a - 1)) a) else none

def spec_Free.l0 : Nat → List Bool → Int → Int → Option (Bool)
  | 0, _, _, _ => none
  | k + 1, x14, x15, x16 => if x16 < x15 then (if 0 ≤ x16 then (if x16 < (x14.length : Int) then (if rdOf false x14 x16 = true then (some false) else (spec_Free.l0 k x14 x15 (wrap64 (x16 + 1)))) else (none)) else (none)) else (some true)
def spec_Free.f (k : Nat) (l0 : List Bool) (a1 : Int) (a2 : Int) : Option (Bool) := if 0 ≤ a1 then (if a1 ≤ (wrap64 (a1 + a2)) then (if (wrap64 (a1 + a2)) ≤ (l0.length : Int) then (spec_Free.l0 k ((l0.take ((wrap64 (a1 + a2)) : Int).toNat).drop (a1 : Int).toNat) (((l0.take ((wrap64 (a1 + a2)) : Int).toNat).drop (a1 : Int).toNat).length : Int) 0) else (none)) else (none)) else (none)
theorem spec_Free.mono_l : ∀ k, (∀ y0 y1 y2, LeO (spec_Free.l0 k y0 y1 y2) (spec_Free.l0 (k + 1) y0 y1 y2))
  | 0 => fun _ _ _ r h => by simp [spec_Free.l0] at h
  | k + 1 => by
    have ih0 := spec_Free.mono_l k
    · intro y0 y1 y2
      unfold spec_Free.l0
      repeat' first
      | (with_reducible exact ih0 _ _ _)
      | (with_reducible exact LeO.refl _)
      | (with_reducible exact LeO.none _)
      | (with_reducible refine LeO.ite ?_ ?_)
      | (with_reducible refine LeO.bind ?_ (fun _ => ?_))
      | exact ih0 _ _ _
      | exact LeO.none _
      | refine LeO.ite ?_ ?_
      | refine LeO.bind ?_ (fun _ => ?_)
theorem spec_Free.mono : ∀ a0 a1 a2 k, LeO (spec_Free.f k a0 a1 a2) (spec_Free.f (k + 1) a0 a1 a2) := by
  intro a0 a1 a2 k
  have ih0 := spec_Free.mono_l k
  unfold spec_Free.f
  repeat' first
      | (with_reducible exact ih0 _ _ _)
      | (with_reducible exact LeO.refl _)
      | (with_reducible exact LeO.none _)
      | (with_reducible refine LeO.ite ?_ ?_)
      | (with_reducible refine LeO.bind ?_ (fun _ => ?_))
      | exact ih0 _ _ _
      | exact LeO.none _
      | refine LeO.ite ?_ ?_
      | refine LeO.bind ?_ (fun _ => ?_)

end Go.Proofs.Yticjdbdhnfmidaa.K
