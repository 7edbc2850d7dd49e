/- The walk of the law. (Lines that the kit's print has written for this claim, grouped by assemble.py; hand contracts take the place of what it does not print.) -/
import Derived.Test.YticjdbdhnfmidaaKA
import Derived.Test.YticjdbdhnfmidaaKB
import Derived.Test.YticjdbdhnfmidaaKC
import Derived.Test.YticjdbdhnfmidaaKD
import Derived.Test.YticjdbdhnfmidaaKE
import Derived.Test.YticjdbdhnfmidaaKF
import Derived.Test.YticjdbdhnfmidaaKG
import Derived.Test.YticjdbdhnfmidaaHB
namespace Go.Proofs.Yticjdbdhnfmidaa.K
open Go.RowKit Go.Proofs.YticjdbdhnfmidaaW.PrintWords Go.Proofs.YticjdbdhnfmidaaW.PrintLast Go.Proofs.YticjdbdhnfmidaaW.PrintMore
attribute [local go_sem] max2_int min2_int max_two min_two max_three min_three max_four min_four   -- for this text's walks alone
set_option linter.unusedVariables false
set_option linter.unusedSimpArgs false

attribute [local go_sem high] eqA35
/-! ### laws_FnScriptWhole: function 3 -/
mutual
def laws_FnScriptWhole.l0 : Nat → List Bool → List (S35) → List (S28) → Int → Int → Option (Bool)
  | 0, _, _, _, _, _ => none
  | k + 1, x3, x4, x19, x20, x21 => if x21 < x20 then (if 0 ≤ x21 then (if x21 < (x19.length : Int) then (if ((rd_T28 x19 x21).f0) = 0 then ((spec_Free.f k x3 ((rd_T28 x19 x21).f1) ((rd_T28 x19 x21).f2)).bind fun t264 => (laws_FnScriptWhole.j1 k x3 x4 x19 x20 x21 t264 ((rd_T28 x19 x21).f0) ((rd_T28 x19 x21).f1) ((rd_T28 x19 x21).f2))) else (laws_FnScriptWhole.j1 k x3 x4 x19 x20 x21 false ((rd_T28 x19 x21).f0) ((rd_T28 x19 x21).f1) ((rd_T28 x19 x21).f2))) else (none)) else (none)) else ((impl_Make.f 2 5).bind fun bt259 => ((impl_Size.f bt259.1 bt259.2).bind fun t261 => (some (t261 == 3))))
def laws_FnScriptWhole.j3 : Nat → List Bool → List (S35) → Int → List (S28) → Int → Int → Int → Int → Int → Option (Bool)
  | 0, _, _, _, _, _, _, _, _, _ => none
  | k + 1, x3, x4, x7, x19, x20, x21, x264000, x264001, x264002 => (spec_Runs.f k x3).bind fun t288 => ((spec_Same.f k x4 t288).bind fun t291 => (if t291 = true then ((spec_Count.f k x3).bind fun t292 => (laws_FnScriptWhole.j4 k x3 x4 x19 x20 x21 (x7 != t292) x264000 x264001 x264002)) else (laws_FnScriptWhole.j4 k x3 x4 x19 x20 x21 true x264000 x264001 x264002)))
def laws_FnScriptWhole.j4 : Nat → List Bool → List (S35) → List (S28) → Int → Int → Bool → Int → Int → Int → Option (Bool)
  | 0, _, _, _, _, _, _, _, _, _ => none
  | k + 1, x3, x4, x19, x20, x21, x127, x264000, x264001, x264002 => if x127 = true then (some false) else ((spec_Next.f k x3 x264001).bind fun t293 => (if (x4.length : Int) > 0 then ((impl_FindAddrGreaterEqual.f k x4 (IntKind.u64.wrap (x264001))).bind fun bt294 => (if (bt294.2 != (decide (t293 ≥ 0))) = true then (laws_FnScriptWhole.j5 k x3 x4 x19 x20 x21 true x264000 x264001 x264002) else (if bt294.2 = true then (laws_FnScriptWhole.j5 k x3 x4 x19 x20 x21 (bt294.1 != (IntKind.u64.wrap (t293))) x264000 x264001 x264002) else (laws_FnScriptWhole.j5 k x3 x4 x19 x20 x21 false x264000 x264001 x264002)))) else ((impl_InList.f k x4 (IntKind.u64.wrap (x264001))).bind fun t298 => (if 0 ≤ x264001 then (if x264001 < (x3.length : Int) then (if (t298 != (rdOf false x3 x264001)) = true then (some false) else (laws_FnScriptWhole.l0 k x3 x4 x19 x20 (wrap64 (x21 + 1)))) else (none)) else (none)))))
def laws_FnScriptWhole.j5 : Nat → List Bool → List (S35) → List (S28) → Int → Int → Bool → Int → Int → Int → Option (Bool)
  | 0, _, _, _, _, _, _, _, _, _ => none
  | k + 1, x3, x4, x19, x20, x21, x155, x264000, x264001, x264002 => if x155 = true then (some false) else ((impl_InList.f k x4 (IntKind.u64.wrap (x264001))).bind fun t296 => (if 0 ≤ x264001 then (if x264001 < (x3.length : Int) then (if (t296 != (rdOf false x3 x264001)) = true then (some false) else (laws_FnScriptWhole.l0 k x3 x4 x19 x20 (wrap64 (x21 + 1)))) else (none)) else (none)))
def laws_FnScriptWhole.j1 : Nat → List Bool → List (S35) → List (S28) → Int → Int → Bool → Int → Int → Int → Option (Bool)
  | 0, _, _, _, _, _, _, _, _, _ => none
  | k + 1, x3, x4, x19, x20, x21, x27, x264000, x264001, x264002 => if x27 = true then ((spec_Put.f k x3 x264001 x264002 true).bind fun t265 => ((impl_Make.f (IntKind.u64.wrap (x264001)) (IntKind.u64.wrap (wrap64 (x264001 + x264002)))).bind fun bt266 => ((impl_Add.f k x4 bt266.1 bt266.2).bind fun bt268 => (laws_FnScriptWhole.j3 k t265 bt268.1 bt268.2 x19 x20 x21 x264000 x264001 x264002)))) else (if x264000 = 1 then ((spec_Put.f k x3 x264001 (wrap64 (600 - x264001)) false).bind fun t272 => ((impl_CutFrom.f k x4 (IntKind.u64.wrap (x264001))).bind fun bt273 => (laws_FnScriptWhole.j3 k t272 bt273.1 bt273.2 x19 x20 x21 x264000 x264001 x264002))) else (if x264000 = 2 then (laws_FnScriptWhole.j2 k x3 x4 x19 x20 x21 (decide ((x4.length : Int) > 0)) x264000 x264001 x264002) else (laws_FnScriptWhole.j2 k x3 x4 x19 x20 x21 false x264000 x264001 x264002)))
def laws_FnScriptWhole.j2 : Nat → List Bool → List (S35) → List (S28) → Int → Int → Bool → Int → Int → Int → Option (Bool)
  | 0, _, _, _, _, _, _, _, _, _ => none
  | k + 1, x3, x4, x19, x20, x21, x79, x264000, x264001, x264002 => if x79 = true then ((spec_Last.f k x3 x264002).bind fun bt277 => ((spec_Put.f k x3 bt277.1 bt277.2 false).bind fun t279 => ((impl_RemoveLast.f k x4 (IntKind.u64.wrap (x264002))).bind fun bt281 => (if (!(bt281.2.2.1 == (IntKind.u64.wrap (bt277.1))) || (!(bt281.2.2.2 == (IntKind.u64.wrap (wrap64 (bt277.1 + bt277.2)))))) = true then (some false) else (laws_FnScriptWhole.j3 k t279 bt281.1 bt281.2.1 x19 x20 x21 x264000 x264001 x264002))))) else ((spec_Count.f k x3).bind fun t287 => (laws_FnScriptWhole.j3 k x3 x4 t287 x19 x20 x21 x264000 x264001 x264002))
end
def laws_FnScriptWhole.f (k : Nat) (l0 : List Int) : Option (Bool) := if (l0.length : Int) > 2147483647 then (some true) else (if 600 ≤ 281474976710656 then ((spec_Script.f k l0).bind fun t256 => (laws_FnScriptWhole.l0 k (List.replicate 600 false) ([] : List (S35)) t256 (t256.length : Int) 0)) else (none))
theorem laws_FnScriptWhole.mono_l : ∀ k, (∀ y0 y1 y2 y3 y4, LeO (laws_FnScriptWhole.l0 k y0 y1 y2 y3 y4) (laws_FnScriptWhole.l0 (k + 1) y0 y1 y2 y3 y4)) ∧ (∀ y0 y1 y2 y3 y4 y5 y6 y7 y8, LeO (laws_FnScriptWhole.j3 k y0 y1 y2 y3 y4 y5 y6 y7 y8) (laws_FnScriptWhole.j3 (k + 1) y0 y1 y2 y3 y4 y5 y6 y7 y8)) ∧ (∀ y0 y1 y2 y3 y4 y5 y6 y7 y8, LeO (laws_FnScriptWhole.j4 k y0 y1 y2 y3 y4 y5 y6 y7 y8) (laws_FnScriptWhole.j4 (k + 1) y0 y1 y2 y3 y4 y5 y6 y7 y8)) ∧ (∀ y0 y1 y2 y3 y4 y5 y6 y7 y8, LeO (laws_FnScriptWhole.j5 k y0 y1 y2 y3 y4 y5 y6 y7 y8) (laws_FnScriptWhole.j5 (k + 1) y0 y1 y2 y3 y4 y5 y6 y7 y8)) ∧ (∀ y0 y1 y2 y3 y4 y5 y6 y7 y8, LeO (laws_FnScriptWhole.j1 k y0 y1 y2 y3 y4 y5 y6 y7 y8) (laws_FnScriptWhole.j1 (k + 1) y0 y1 y2 y3 y4 y5 y6 y7 y8)) ∧ (∀ y0 y1 y2 y3 y4 y5 y6 y7 y8, LeO (laws_FnScriptWhole.j2 k y0 y1 y2 y3 y4 y5 y6 y7 y8) (laws_FnScriptWhole.j2 (k + 1) y0 y1 y2 y3 y4 y5 y6 y7 y8))
  | 0 => ⟨fun _ _ _ _ _ r h => by simp [laws_FnScriptWhole.l0] at h, fun _ _ _ _ _ _ _ _ _ r h => by simp [laws_FnScriptWhole.j3] at h, fun _ _ _ _ _ _ _ _ _ r h => by simp [laws_FnScriptWhole.j4] at h, fun _ _ _ _ _ _ _ _ _ r h => by simp [laws_FnScriptWhole.j5] at h, fun _ _ _ _ _ _ _ _ _ r h => by simp [laws_FnScriptWhole.j1] at h, fun _ _ _ _ _ _ _ _ _ r h => by simp [laws_FnScriptWhole.j2] at h⟩
  | k + 1 => by
    obtain ⟨ih0, ih1, ih2, ih3, ih4, ih5⟩ := laws_FnScriptWhole.mono_l k
    refine ⟨?_, ?_, ?_, ?_, ?_, ?_⟩
    · intro y0 y1 y2 y3 y4
      unfold laws_FnScriptWhole.l0
      repeat' first
      | (with_reducible exact ih0 _ _ _ _ _)
      | (with_reducible exact ih1 _ _ _ _ _ _ _ _ _)
      | (with_reducible exact ih2 _ _ _ _ _ _ _ _ _)
      | (with_reducible exact ih3 _ _ _ _ _ _ _ _ _)
      | (with_reducible exact ih4 _ _ _ _ _ _ _ _ _)
      | (with_reducible exact ih5 _ _ _ _ _ _ _ _ _)
      | (with_reducible exact impl_Add.mono _ _ _ _)
      | (with_reducible exact impl_CutFrom.mono _ _ _)
      | (with_reducible exact impl_FindAddrGreaterEqual.mono _ _ _)
      | (with_reducible exact impl_InList.mono _ _ _)
      | (with_reducible exact impl_RemoveLast.mono _ _ _)
      | (with_reducible exact spec_Count.mono _ _)
      | (with_reducible exact spec_Free.mono _ _ _ _)
      | (with_reducible exact spec_Last.mono _ _ _)
      | (with_reducible exact spec_Next.mono _ _ _)
      | (with_reducible exact spec_Put.mono _ _ _ _ _)
      | (with_reducible exact spec_Runs.mono _ _)
      | (with_reducible exact spec_Same.mono _ _ _)
      | (with_reducible exact spec_Script.mono _ _)
      | (with_reducible exact LeO.refl _)
      | (with_reducible exact LeO.none _)
      | (with_reducible refine LeO.ite ?_ ?_)
      | (with_reducible refine LeO.bind ?_ (fun _ => ?_))
      | exact ih0 _ _ _ _ _
      | exact ih1 _ _ _ _ _ _ _ _ _
      | exact ih2 _ _ _ _ _ _ _ _ _
      | exact ih3 _ _ _ _ _ _ _ _ _
      | exact ih4 _ _ _ _ _ _ _ _ _
      | exact ih5 _ _ _ _ _ _ _ _ _
      | exact impl_Add.mono _ _ _ _
      | exact impl_CutFrom.mono _ _ _
      | exact impl_FindAddrGreaterEqual.mono _ _ _
      | exact impl_InList.mono _ _ _
      | exact impl_RemoveLast.mono _ _ _
      | exact spec_Count.mono _ _
      | exact spec_Free.mono _ _ _ _
      | exact spec_Last.mono _ _ _
      | exact spec_Next.mono _ _ _
      | exact spec_Put.mono _ _ _ _ _
      | exact spec_Runs.mono _ _
      | exact spec_Same.mono _ _ _
      | exact spec_Script.mono _ _
      | exact LeO.none _
      | refine LeO.ite ?_ ?_
      | refine LeO.bind ?_ (fun _ => ?_)
    · intro y0 y1 y2 y3 y4 y5 y6 y7 y8
      unfold laws_FnScriptWhole.j3
      repeat' first
      | (with_reducible exact ih0 _ _ _ _ _)
      | (with_reducible exact ih1 _ _ _ _ _ _ _ _ _)
      | (with_reducible exact ih2 _ _ _ _ _ _ _ _ _)
      | (with_reducible exact ih3 _ _ _ _ _ _ _ _ _)
      | (with_reducible exact ih4 _ _ _ _ _ _ _ _ _)
      | (with_reducible exact ih5 _ _ _ _ _ _ _ _ _)
      | (with_reducible exact impl_Add.mono _ _ _ _)
      | (with_reducible exact impl_CutFrom.mono _ _ _)
      | (with_reducible exact impl_FindAddrGreaterEqual.mono _ _ _)
      | (with_reducible exact impl_InList.mono _ _ _)
      | (with_reducible exact impl_RemoveLast.mono _ _ _)
      | (with_reducible exact spec_Count.mono _ _)
      | (with_reducible exact spec_Free.mono _ _ _ _)
      | (with_reducible exact spec_Last.mono _ _ _)
      | (with_reducible exact spec_Next.mono _ _ _)
      | (with_reducible exact spec_Put.mono _ _ _ _ _)
      | (with_reducible exact spec_Runs.mono _ _)
      | (with_reducible exact spec_Same.mono _ _ _)
      | (with_reducible exact spec_Script.mono _ _)
      | (with_reducible exact LeO.refl _)
      | (with_reducible exact LeO.none _)
      | (with_reducible refine LeO.ite ?_ ?_)
      | (with_reducible refine LeO.bind ?_ (fun _ => ?_))
      | exact ih0 _ _ _ _ _
      | exact ih1 _ _ _ _ _ _ _ _ _
      | exact ih2 _ _ _ _ _ _ _ _ _
      | exact ih3 _ _ _ _ _ _ _ _ _
      | exact ih4 _ _ _ _ _ _ _ _ _
      | exact ih5 _ _ _ _ _ _ _ _ _
      | exact impl_Add.mono _ _ _ _
      | exact impl_CutFrom.mono _ _ _
      | exact impl_FindAddrGreaterEqual.mono _ _ _
      | exact impl_InList.mono _ _ _
      | exact impl_RemoveLast.mono _ _ _
      | exact spec_Count.mono _ _
      | exact spec_Free.mono _ _ _ _
      | exact spec_Last.mono _ _ _
      | exact spec_Next.mono _ _ _
      | exact spec_Put.mono _ _ _ _ _
      | exact spec_Runs.mono _ _
      | exact spec_Same.mono _ _ _
      | exact spec_Script.mono _ _
      | exact LeO.none _
      | refine LeO.ite ?_ ?_
      | refine LeO.bind ?_ (fun _ => ?_)
    · intro y0 y1 y2 y3 y4 y5 y6 y7 y8
      unfold laws_FnScriptWhole.j4
      repeat' first
      | (with_reducible exact ih0 _ _ _ _ _)
      | (with_reducible exact ih1 _ _ _ _ _ _ _ _ _)
      | (with_reducible exact ih2 _ _ _ _ _ _ _ _ _)
      | (with_reducible exact ih3 _ _ _ _ _ _ _ _ _)
      | (with_reducible exact ih4 _ _ _ _ _ _ _ _ _)
      | (with_reducible exact ih5 _ _ _ _ _ _ _ _ _)
      | (with_reducible exact impl_Add.mono _ _ _ _)
      | (with_reducible exact impl_CutFrom.mono _ _ _)
      | (with_reducible exact impl_FindAddrGreaterEqual.mono _ _ _)
      | (with_reducible exact impl_InList.mono _ _ _)
      | (with_reducible exact impl_RemoveLast.mono _ _ _)
      | (with_reducible exact spec_Count.mono _ _)
      | (with_reducible exact spec_Free.mono _ _ _ _)
      | (with_reducible exact spec_Last.mono _ _ _)
      | (with_reducible exact spec_Next.mono _ _ _)
      | (with_reducible exact spec_Put.mono _ _ _ _ _)
      | (with_reducible exact spec_Runs.mono _ _)
      | (with_reducible exact spec_Same.mono _ _ _)
      | (with_reducible exact spec_Script.mono _ _)
      | (with_reducible exact LeO.refl _)
      | (with_reducible exact LeO.none _)
      | (with_reducible refine LeO.ite ?_ ?_)
      | (with_reducible refine LeO.bind ?_ (fun _ => ?_))
      | exact ih0 _ _ _ _ _
      | exact ih1 _ _ _ _ _ _ _ _ _
      | exact ih2 _ _ _ _ _ _ _ _ _
      | exact ih3 _ _ _ _ _ _ _ _ _
      | exact ih4 _ _ _ _ _ _ _ _ _
      | exact ih5 _ _ _ _ _ _ _ _ _
      | exact impl_Add.mono _ _ _ _
      | exact impl_CutFrom.mono _ _ _
      | exact impl_FindAddrGreaterEqual.mono _ _ _
      | exact impl_InList.mono _ _ _
      | exact impl_RemoveLast.mono _ _ _
      | exact spec_Count.mono _ _
      | exact spec_Free.mono _ _ _ _
      | exact spec_Last.mono _ _ _
      | exact spec_Next.mono _ _ _
      | exact spec_Put.mono _ _ _ _ _
      | exact spec_Runs.mono _ _
      | exact spec_Same.mono _ _ _
      | exact spec_Script.mono _ _
      | exact LeO.none _
      | refine LeO.ite ?_ ?_
      | refine LeO.bind ?_ (fun _ => ?_)
    · intro y0 y1 y2 y3 y4 y5 y6 y7 y8
      unfold laws_FnScriptWhole.j5
      repeat' first
      | (with_reducible exact ih0 _ _ _ _ _)
      | (with_reducible exact ih1 _ _ _ _ _ _ _ _ _)
      | (with_reducible exact ih2 _ _ _ _ _ _ _ _ _)
      | (with_reducible exact ih3 _ _ _ _ _ _ _ _ _)
      | (with_reducible exact ih4 _ _ _ _ _ _ _ _ _)
      | (with_reducible exact ih5 _ _ _ _ _ _ _ _ _)
      | (with_reducible exact impl_Add.mono _ _ _ _)
      | (with_reducible exact impl_CutFrom.mono _ _ _)
      | (with_reducible exact impl_FindAddrGreaterEqual.mono _ _ _)
      | (with_reducible exact impl_InList.mono _ _ _)
      | (with_reducible exact impl_RemoveLast.mono _ _ _)
      | (with_reducible exact spec_Count.mono _ _)
      | (with_reducible exact spec_Free.mono _ _ _ _)
      | (with_reducible exact spec_Last.mono _ _ _)
      | (with_reducible exact spec_Next.mono _ _ _)
      | (with_reducible exact spec_Put.mono _ _ _ _ _)
      | (with_reducible exact spec_Runs.mono _ _)
      | (with_reducible exact spec_Same.mono _ _ _)
      | (with_reducible exact spec_Script.mono _ _)
      | (with_reducible exact LeO.refl _)
      | (with_reducible exact LeO.none _)
      | (with_reducible refine LeO.ite ?_ ?_)
      | (with_reducible refine LeO.bind ?_ (fun _ => ?_))
      | exact ih0 _ _ _ _ _
      | exact ih1 _ _ _ _ _ _ _ _ _
      | exact ih2 _ _ _ _ _ _ _ _ _
      | exact ih3 _ _ _ _ _ _ _ _ _
      | exact ih4 _ _ _ _ _ _ _ _ _
      | exact ih5 _ _ _ _ _ _ _ _ _
      | exact impl_Add.mono _ _ _ _
      | exact impl_CutFrom.mono _ _ _
      | exact impl_FindAddrGreaterEqual.mono _ _ _
      | exact impl_InList.mono _ _ _
      | exact impl_RemoveLast.mono _ _ _
      | exact spec_Count.mono _ _
      | exact spec_Free.mono _ _ _ _
      | exact spec_Last.mono _ _ _
      | exact spec_Next.mono _ _ _
      | exact spec_Put.mono _ _ _ _ _
      | exact spec_Runs.mono _ _
      | exact spec_Same.mono _ _ _
      | exact spec_Script.mono _ _
      | exact LeO.none _
      | refine LeO.ite ?_ ?_
      | refine LeO.bind ?_ (fun _ => ?_)
    · intro y0 y1 y2 y3 y4 y5 y6 y7 y8
      unfold laws_FnScriptWhole.j1
      repeat' first
      | (with_reducible exact ih0 _ _ _ _ _)
      | (with_reducible exact ih1 _ _ _ _ _ _ _ _ _)
      | (with_reducible exact ih2 _ _ _ _ _ _ _ _ _)
      | (with_reducible exact ih3 _ _ _ _ _ _ _ _ _)
      | (with_reducible exact ih4 _ _ _ _ _ _ _ _ _)
      | (with_reducible exact ih5 _ _ _ _ _ _ _ _ _)
      | (with_reducible exact impl_Add.mono _ _ _ _)
      | (with_reducible exact impl_CutFrom.mono _ _ _)
      | (with_reducible exact impl_FindAddrGreaterEqual.mono _ _ _)
      | (with_reducible exact impl_InList.mono _ _ _)
      | (with_reducible exact impl_RemoveLast.mono _ _ _)
      | (with_reducible exact spec_Count.mono _ _)
      | (with_reducible exact spec_Free.mono _ _ _ _)
      | (with_reducible exact spec_Last.mono _ _ _)
      | (with_reducible exact spec_Next.mono _ _ _)
      | (with_reducible exact spec_Put.mono _ _ _ _ _)
      | (with_reducible exact spec_Runs.mono _ _)
      | (with_reducible exact spec_Same.mono _ _ _)
      | (with_reducible exact spec_Script.mono _ _)
      | (with_reducible exact LeO.refl _)
      | (with_reducible exact LeO.none _)
      | (with_reducible refine LeO.ite ?_ ?_)
      | (with_reducible refine LeO.bind ?_ (fun _ => ?_))
      | exact ih0 _ _ _ _ _
      | exact ih1 _ _ _ _ _ _ _ _ _
      | exact ih2 _ _ _ _ _ _ _ _ _
      | exact ih3 _ _ _ _ _ _ _ _ _
      | exact ih4 _ _ _ _ _ _ _ _ _
      | exact ih5 _ _ _ _ _ _ _ _ _
      | exact impl_Add.mono _ _ _ _
      | exact impl_CutFrom.mono _ _ _
      | exact impl_FindAddrGreaterEqual.mono _ _ _
      | exact impl_InList.mono _ _ _
      | exact impl_RemoveLast.mono _ _ _
      | exact spec_Count.mono _ _
      | exact spec_Free.mono _ _ _ _
      | exact spec_Last.mono _ _ _
      | exact spec_Next.mono _ _ _
      | exact spec_Put.mono _ _ _ _ _
      | exact spec_Runs.mono _ _
      | exact spec_Same.mono _ _ _
      | exact spec_Script.mono _ _
      | exact LeO.none _
      | refine LeO.ite ?_ ?_
      | refine LeO.bind ?_ (fun _ => ?_)
    · intro y0 y1 y2 y3 y4 y5 y6 y7 y8
      unfold laws_FnScriptWhole.j2
      repeat' first
      | (with_reducible exact ih0 _ _ _ _ _)
      | (with_reducible exact ih1 _ _ _ _ _ _ _ _ _)
      | (with_reducible exact ih2 _ _ _ _ _ _ _ _ _)
      | (with_reducible exact ih3 _ _ _ _ _ _ _ _ _)
      | (with_reducible exact ih4 _ _ _ _ _ _ _ _ _)
      | (with_reducible exact ih5 _ _ _ _ _ _ _ _ _)
      | (with_reducible exact impl_Add.mono _ _ _ _)
      | (with_reducible exact impl_CutFrom.mono _ _ _)
      | (with_reducible exact impl_FindAddrGreaterEqual.mono _ _ _)
      | (with_reducible exact impl_InList.mono _ _ _)
      | (with_reducible exact impl_RemoveLast.mono _ _ _)
      | (with_reducible exact spec_Count.mono _ _)
      | (with_reducible exact spec_Free.mono _ _ _ _)
      | (with_reducible exact spec_Last.mono _ _ _)
      | (with_reducible exact spec_Next.mono _ _ _)
      | (with_reducible exact spec_Put.mono _ _ _ _ _)
      | (with_reducible exact spec_Runs.mono _ _)
      | (with_reducible exact spec_Same.mono _ _ _)
      | (with_reducible exact spec_Script.mono _ _)
      | (with_reducible exact LeO.refl _)
      | (with_reducible exact LeO.none _)
      | (with_reducible refine LeO.ite ?_ ?_)
      | (with_reducible refine LeO.bind ?_ (fun _ => ?_))
      | exact ih0 _ _ _ _ _
      | exact ih1 _ _ _ _ _ _ _ _ _
      | exact ih2 _ _ _ _ _ _ _ _ _
      | exact ih3 _ _ _ _ _ _ _ _ _
      | exact ih4 _ _ _ _ _ _ _ _ _
      | exact ih5 _ _ _ _ _ _ _ _ _
      | exact impl_Add.mono _ _ _ _
      | exact impl_CutFrom.mono _ _ _
      | exact impl_FindAddrGreaterEqual.mono _ _ _
      | exact impl_InList.mono _ _ _
      | exact impl_RemoveLast.mono _ _ _
      | exact spec_Count.mono _ _
      | exact spec_Free.mono _ _ _ _
      | exact spec_Last.mono _ _ _
      | exact spec_Next.mono _ _ _
      | exact spec_Put.mono _ _ _ _ _
      | exact spec_Runs.mono _ _
      | exact spec_Same.mono _ _ _
      | exact spec_Script.mono _ _
      | exact LeO.none _
      | refine LeO.ite ?_ ?_
      | refine LeO.bind ?_ (fun _ => ?_)
theorem laws_FnScriptWhole.mono : ∀ a0 k, LeO (laws_FnScriptWhole.f k a0) (laws_FnScriptWhole.f (k + 1) a0) := by
  intro a0 k
  obtain ⟨ih0, ih1, ih2, ih3, ih4, ih5⟩ := laws_FnScriptWhole.mono_l k
  unfold laws_FnScriptWhole.f
  repeat' first
      | (with_reducible exact ih0 _ _ _ _ _)
      | (with_reducible exact ih1 _ _ _ _ _ _ _ _ _)
      | (with_reducible exact ih2 _ _ _ _ _ _ _ _ _)
      | (with_reducible exact ih3 _ _ _ _ _ _ _ _ _)
      | (with_reducible exact ih4 _ _ _ _ _ _ _ _ _)
      | (with_reducible exact ih5 _ _ _ _ _ _ _ _ _)
      | (with_reducible exact impl_Add.mono _ _ _ _)
      | (with_reducible exact impl_CutFrom.mono _ _ _)
      | (with_reducible exact impl_FindAddrGreaterEqual.mono _ _ _)
      | (with_reducible exact impl_InList.mono _ _ _)
      | (with_reducible exact impl_RemoveLast.mono _ _ _)
      | (with_reducible exact spec_Count.mono _ _)
      | (with_reducible exact spec_Free.mono _ _ _ _)
      | (with_reducible exact spec_Last.mono _ _ _)
      | (with_reducible exact spec_Next.mono _ _ _)
      | (with_reducible exact spec_Put.mono _ _ _ _ _)
      | (with_reducible exact spec_Runs.mono _ _)
      | (with_reducible exact spec_Same.mono _ _ _)
      | (with_reducible exact spec_Script.mono _ _)
      | (with_reducible exact LeO.refl _)
      | (with_reducible exact LeO.none _)
      | (with_reducible refine LeO.ite ?_ ?_)
      | (with_reducible refine LeO.bind ?_ (fun _ => ?_))
      | exact ih0 _ _ _ _ _
      | exact ih1 _ _ _ _ _ _ _ _ _
      | exact ih2 _ _ _ _ _ _ _ _ _
      | exact ih3 _ _ _ _ _ _ _ _ _
      | exact ih4 _ _ _ _ _ _ _ _ _
      | exact ih5 _ _ _ _ _ _ _ _ _
      | exact impl_Add.mono _ _ _ _
      | exact impl_CutFrom.mono _ _ _
      | exact impl_FindAddrGreaterEqual.mono _ _ _
      | exact impl_InList.mono _ _ _
      | exact impl_RemoveLast.mono _ _ _
      | exact spec_Count.mono _ _
      | exact spec_Free.mono _ _ _ _
      | exact spec_Last.mono _ _ _
      | exact spec_Next.mono _ _ _
      | exact spec_Put.mono _ _ _ _ _
      | exact spec_Runs.mono _ _
      | exact spec_Same.mono _ _ _
      | exact spec_Script.mono _ _
      | exact LeO.none _
      | refine LeO.ite ?_ ?_
      | refine LeO.bind ?_ (fun _ => ?_)
def laws_FnScriptWhole.T30 : Bool × List (List Nat × List Nat) := (true, [([], []), ([], []), ([1], [1]), ([2], [2]), ([0, 3], [0, 3]), ([], []), ([], []), ([6], [6]), ([5, 7], [5, 7]), ([8], [8]), ([4, 9], [4, 9])])
def laws_FnScriptWhole.B30 : List Nat := [0, 0, 2, 6, 15, 0, 0, 64, 224, 480, 1023]
theorem laws_FnScriptWhole.tab30 : rtab .any (opsOf Try.f3 30) = laws_FnScriptWhole.T30 := by kernel_rfl
theorem laws_FnScriptWhole.bits30 : waitsOk laws_FnScriptWhole.T30.2 laws_FnScriptWhole.B30 = true := by kernel_rfl
set_option maxHeartbeats 8000000 in
set_option maxRecDepth 100000 in
theorem laws_FnScriptWhole.calls (k : Nat) (A0 : Option Addr) (c0 : Nat) (l0 : List Int) (r : Bool) (w : World) (hr0 : Kd.C (Kd.int .u8) w A0 l0.length l0) (hc0 : l0.length ≤ c0) (h : laws_FnScriptWhole.f k l0 = some r) :
    Calls Try.prog 3 #[.slice A0 l0.length c0] w fun e w' => e = .returned (.bool r) ∧ Below w.heap.size w w' := by
  have hu28 := Try.underlying28
  have hu35 := Try.underlying35
  have HR0 := Aside0.mk hr0
  have HC0 := Aside0.mk hc0
  clear hr0 hc0
  have HB := Aside0.mk (Below.refl w.heap.size w)
  have H : (if (l0.length : Int) > 2147483647 then (some true) else (if 600 ≤ 281474976710656 then ((spec_Script.f k l0).bind fun t256 => (laws_FnScriptWhole.l0 k (List.replicate 600 false) ([] : List (S35)) t256 (t256.length : Int) 0)) else (none))) = some r := h
  clear h
  by_cases c2 : (l0.length : Int) > 2147483647
  · as_aux_lemma =>
    rw [if_pos c2] at H
    have c2b0 : decide (2147483647 < (l0.length : Int)) = true := decide_eq_true c2
    have c2b1 : decide (2147483647 < l0.length) = true := decide_eq_true (by omega)
    clear c2
    obtain rfl := Option.some.inj H
    go_enter Try.func3, Try.ntmps3
    go_wp2
    go_ret
    exact ⟨by first | rfl | (simp [errW_none, errW_some] <;> rfl) | (simp [*, errW_none, errW_some] <;> rfl), by repeat (first | (with_reducible first | exact HB.out | apply below_alloc | apply pw_below_drewN | apply below_drew1) | exact HB.out)⟩
  · as_aux_lemma =>
    rw [if_neg c2] at H
    have c2b0 : decide (2147483647 < (l0.length : Int)) = false := decide_eq_false c2
    have c2b1 : decide (2147483647 < l0.length) = false := decide_eq_false (by omega)
    clear c2
    by_cases c3 : 600 ≤ 281474976710656
    · as_aux_lemma =>
      rw [if_pos c3] at H
      have c3b0 := eq_true c3
      have c3b1 : decide (600 ≤ 281474976710656) = true := decide_eq_true c3
      clear c3
      obtain ⟨y253, hy253⟩ : ∃ y_ : List Bool, y_ = (List.replicate 600 false) := ⟨_, rfl⟩
      replace H : ((spec_Script.f k l0).bind fun t256 => (laws_FnScriptWhole.l0 k y253 ([] : List (S35)) t256 (t256.length : Int) 0)) = some r := by first | (rw [hy253]; with_reducible exact H) | (have H2_ := (Option.bind_some _ _).symm.trans H; rw [hy253]; with_reducible exact H2_) | (have H2_ := (Option.bind_some _ _).symm.trans H; with_reducible exact H2_) | with_reducible exact H | (rw [hy253]; exact H) | exact H
      have Ny253 := Aside0.mk hy253
      clear hy253
      replace H := Option.bind_eq_some_iff.mp H
      obtain ⟨t256, A40, H⟩ := H
      replace H : (laws_FnScriptWhole.l0 k y253 ([] : List (S35)) t256 (t256.length : Int) 0) = some r := H
      have A4 := Aside0.mk A40
      clear A40
      have H' := Aside0.mk H
      clear H
      go_enter Try.func3, Try.ntmps3
      go_wp2_with (first | ((with_reducible refine gate_dst (N := 17) rfl ?_); (try (refine gate_guard (by rfl) ?_; dsimp only)); refine Kd.R_make Kd.bool _ 4 rfl (N := 17) rfl 23 _ _ rfl 600 rfl rfl Try.underlying23 (.bool false) 1 info4 rfl (by decide) (by omega) false (ok := fun _ => True) (okp := fun _ => True) rfl (fun _ hk => hk) trivial (by omega) (by omega) (Below.refl _ _) (Nat.le_refl _) ?_; intro v254 w5 ho6 hb hg_ hnew_; clear hg_ hnew_; (first | rw [← Ny253.out] at ho6 | (simp only [Int.reduceToNat] at ho6; rw [← Ny253.out] at ho6)); have n0_ := Aside0.mk (Kd.R_lower ho6 (below_size (by repeat (first | (with_reducible first | exact HB.out | apply below_alloc | apply pw_below_drewN | apply below_drew1) | exact HB.out)))); have n1_ := Aside0.mk (below_step (by repeat (first | (with_reducible first | exact HB.out | apply below_alloc | apply pw_below_drewN | apply below_drew1) | exact HB.out)) hb); clear HB; have HO255 := n0_; have HB := n1_; clear n0_ n1_; clear hb ho6) | ((with_reducible refine gate_callee (f := 4) rfl ?_); refine goesL_ (some 19) rfl rfl Try.func4 (by kernel_rfl) rfl #[.slice A0 l0.length c0] rfl (by (try simp only [List.map_toArray, List.map_cons, List.map_nil]); first | done | rfl | (simp only [List.length_drop, List.length_take]; rfl)) ?_; (with_reducible refine (spec_Script.calls k _ _ l0 t256 _ ?side1 ?side2 A4.out).mono ?_); (case side1 => repeat (first | exact (Kd.C_below HR0.out HB.out) | (with_reducible refine Kd.C_alloc ?_ _) | (with_reducible refine Kd.C_drewN ?_ _) | (with_reducible refine Kd.C_drew ?_))); (case side2 => exact HC0.out); rintro e w7 ⟨v257, rfl, ho0, hb⟩; refine ⟨_, rfl, ?_⟩; have n0_ := Aside0.mk (Kd.R_below (by (with_reducible repeat (first | apply Kd.R_alloc | apply Kd.R_drewN | apply Kd.R_drew)); exact HO255.out) hb); have n1_ := Aside0.mk (Kd.R_lower ho0 (below_size (by repeat (first | (with_reducible first | exact HB.out | apply below_alloc | apply pw_below_drewN | apply below_drew1) | exact HB.out)))); have n2_ := Aside0.mk (below_step (by repeat (first | (with_reducible first | exact HB.out | apply below_alloc | apply pw_below_drewN | apply below_drew1) | exact HB.out)) hb); clear HO255; clear HB; have HO255 := n0_; have HO258 := n1_; have HB := n2_; clear n0_ n1_ n2_; (try clear hb); (try clear hb2); (try clear hk); (try clear hi); (try clear ho0); obtain ⟨Ao8, co8, eo8⟩ := Kd.R_slice HO258.out; subst eo8))
      go_loopg [4, 21] k (fun kq v4 v21 w' => ∃ (x3_1 : List Bool) (x4_1 : List (S35)) (x21_1 : Int), v21 = .int .i64 x21_1 ∧ Aside0 (laws_FnScriptWhole.l0 kq x3_1 x4_1 t256 (t256.length : Int) x21_1 = some r) ∧ Aside0 (kq ≤ k) ∧ Aside0 (Kd.R Kd.bool 4 w' w.heap.size (fun _ => True) v254 x3_1) ∧ Aside0 (Kd.R k35 35 w' w.heap.size (fun _ => True) v4 x4_1) ∧ Aside0 (Kd.R k28 28 w' w.heap.size (fun _ => True) (.slice Ao8 t256.length co8) t256) ∧ Aside0 (Below w.heap.size w w'))
      case atStart => exact ⟨(y253), (([] : List (S35))), (0), (by first | rfl | (simp; done) | (simp [*]; done)), H', ⟨Nat.le_refl _⟩, ⟨by (with_reducible repeat (first | apply Kd.R_alloc | apply Kd.R_drewN | apply Kd.R_drew)); exact HO255.out⟩, ⟨by first | exact Kd.R_nil _ _ _ _ _ | exact Kd.N_nil _ _ _ _ _ | exact Kd.V_nil _ _ _ _ _ | exact Kd.Q_nil _ _ _ _ _ | exact Kd.S_nil _ _ _ _ _⟩, ⟨by (with_reducible repeat (first | apply Kd.R_alloc | apply Kd.R_drewN | apply Kd.R_drew)); exact HO258.out⟩, ⟨by repeat (first | (with_reducible first | exact HB.out | apply below_alloc | apply pw_below_drewN | apply below_drew1) | exact HB.out)⟩⟩
      case round =>
        as_aux_lemma =>
        clear H'
        try clear c2
        try clear c2b0
        try clear c2b1
        try clear p2
        try clear c3
        try clear c3b0
        try clear c3b1
        try clear c4
        obtain ⟨x3_1, x4_1, x21_1, rfl, HA, HK1, HO_3, HO_4, HO_19, HB⟩ := hrel
        cases gk with
        | zero => exact absurd HA.out (by simp [laws_FnScriptWhole.l0])
        | succ k1 =>
          have H := HA.out
          clear HA
          simp only [laws_FnScriptWhole.l0] at H
          by_cases c9 : x21_1 < (t256.length : Int)
          · as_aux_lemma =>
            rw [if_pos c9] at H
            have c9b0 : decide (x21_1 < (t256.length : Int)) = true := decide_eq_true c9
            clear c9
            by_cases c10 : 0 ≤ x21_1
            · as_aux_lemma =>
              rw [if_pos c10] at H
              have c10b0 : decide (0 ≤ x21_1) = true := decide_eq_true c10
              clear c10
              by_cases c11 : x21_1 < (t256.length : Int)
              · as_aux_lemma =>
                rw [if_pos c11] at H
                have c11b0 : decide (x21_1 < (t256.length : Int)) = true := decide_eq_true c11
                clear c11
                have HC12 := Aside0.mk H
                clear H
                have p262 : 0 ≤ (x21_1 : Int) := of_decide_eq_true (by first | (with_reducible assumption) | assumption)
                have q262 : x21_1 < (t256.length : Int) := of_decide_eq_true (by first | (with_reducible assumption) | assumption)
                obtain ⟨ad262, e262, hx262_0, hx262_1, hx262_2⟩ := at_T28 (Kd.R_reads' HO_19.out).2.2 x21_1 p262 q262
                cases e262
                replace p262 := eq_true p262
                replace q262 := eq_true q262
                go_upto_block 2 with (first | ((with_reducible refine gate_dst (N := 6) rfl ?_); (try (refine gate_guard (by rfl) ?_; dsimp only)); refine box_event ?hg (N := 6) ?hd (cs := #[.int .i64 0, .int .i64 0, .int .i64 0]) (t := 28) ?hr ?_; (case hd => rfl); (case hg => rfl); (case hr => first | (go_simp; done) | (go_simp; rfl)); intro gb263 hg w13 hbox hb; have n0_ := Aside0.mk (Kd.R_below (by (with_reducible repeat (first | apply Kd.R_alloc | apply Kd.R_drewN | apply Kd.R_drew)); exact HO_3.out) hb); have n1_ := Aside0.mk (Kd.R_below (by (with_reducible repeat (first | apply Kd.R_alloc | apply Kd.R_drewN | apply Kd.R_drew)); exact HO_4.out) hb); have n2_ := Aside0.mk (Kd.R_below (Kd.R_elderB (by (with_reducible repeat (first | apply Kd.R_alloc | apply Kd.R_drewN | apply Kd.R_drew)); exact HO_19.out) gb263 (Nat.le_of_eq hg.symm)) hb); have n3_ := Aside0.mk (below_step (by repeat (first | (with_reducible first | exact HB.out | apply below_alloc | apply pw_below_drewN | apply below_drew1) | exact HB.out)) hb); have n4_ := Aside0.mk (hbox); have n5_ := Aside0.mk ((by rw [hg]; exact (below_size (by repeat (first | (with_reducible first | exact HB.out | apply below_alloc | apply pw_below_drewN | apply below_drew1) | exact HB.out))) : w.heap.size ≤ gb263)); have n6_ := Aside0.mk ((by rw [hg]; exact (below_size (by repeat (first | (with_reducible first | exact HB.out | apply below_alloc | apply pw_below_drewN | apply below_drew1) | exact HB.out))) : w.heap.size ≤ gb263)); clear HO_3; clear HO_4; clear HO_19; clear HB; have HO_3 := n0_; have HO_4 := n1_; have HO_19 := n2_; have HB := n3_; have BK263 := n4_; have GW263 := n5_; have GE263 := n6_; clear n0_ n1_ n2_ n3_ n4_ n5_ n6_; clear hb hbox hg; have hcz14_0 : w13.cell? ⟨gb263, 0, none⟩ = some (.int .i64 0) := (blk_cell BK263.out 0).trans rfl; have hcz14_1 : w13.cell? ⟨gb263, 1, none⟩ = some (.int .i64 0) := (blk_cell BK263.out 1).trans rfl; have hcz14_2 : w13.cell? ⟨gb263, 2, none⟩ = some (.int .i64 0) := (blk_cell BK263.out 2).trans rfl; have hfz14_0 := blk_frozen BK263.out 0; have hfz14_1 := blk_frozen BK263.out 1; have hfz14_2 := blk_frozen BK263.out 2))
                (try simp only [Act.put, List.setIfInBounds_toArray, List.set_cons_zero, List.set_cons_succ])
                go_cut [4, 7] (fun v4 v7 wc => ∃ (kq : Nat) (x3_11 : List Bool) (x4_11 : List (S35)) (x7_11 : Int), v7 = .int .u64 x7_11 ∧ Aside0 (laws_FnScriptWhole.j3 kq x3_11 x4_11 x7_11 t256 (t256.length : Int) x21_1 ((rd_T28 t256 x21_1).f0) ((rd_T28 t256 x21_1).f1) ((rd_T28 t256 x21_1).f2) = some r) ∧ Aside0 (kq ≤ k1) ∧ Aside0 (Kd.R Kd.bool 4 wc w.heap.size (fun _ => True) v254 x3_11) ∧ Aside0 (Kd.R k35 35 wc w.heap.size (fun _ => True) v4 x4_11) ∧ Aside0 (Kd.R k28 28 wc w.heap.size (fun k_ => k_ ≠ gb263) (.slice (some ad262) t256.length co8) t256) ∧ Aside0 (wc.heap[gb263]? = some (.cells #[.int .i64 ((rd_T28 t256 x21_1).f0), .int .i64 ((rd_T28 t256 x21_1).f1), .int .i64 ((rd_T28 t256 x21_1).f2)] 28 (0, 0))) ∧ Aside0 (Below w.heap.size w wc))
                case first =>
                  as_aux_lemma =>
                  have H := HC12.out
                  clear HC12
                  have HC15 := Aside0.mk H
                  clear H
                  go_upto_region 10 with (fail)
                  go_cut [27] (fun v27 wc => ∃ (kq : Nat) (x27_14 : Bool), v27 = .bool x27_14 ∧ Aside0 (laws_FnScriptWhole.j1 kq x3_1 x4_1 t256 (t256.length : Int) x21_1 x27_14 ((rd_T28 t256 x21_1).f0) ((rd_T28 t256 x21_1).f1) ((rd_T28 t256 x21_1).f2) = some r) ∧ Aside0 (kq ≤ k1) ∧ Aside0 (Kd.R Kd.bool 4 wc w.heap.size (fun _ => True) v254 x3_1) ∧ Aside0 (Kd.R k35 35 wc w.heap.size (fun _ => True) u4 x4_1) ∧ Aside0 (Kd.R k28 28 wc w.heap.size (fun k_ => k_ ≠ gb263) (.slice (some ad262) t256.length co8) t256) ∧ Aside0 (wc.heap[gb263]? = some (.cells #[.int .i64 ((rd_T28 t256 x21_1).f0), .int .i64 ((rd_T28 t256 x21_1).f1), .int .i64 ((rd_T28 t256 x21_1).f2)] 28 (0, 0))) ∧ Aside0 (Below w.heap.size w wc))
                  case first =>
                    as_aux_lemma =>
                    have H := HC15.out
                    clear HC15
                    by_cases c16 : ((rd_T28 t256 x21_1).f0) = 0
                    · as_aux_lemma =>
                      rw [if_pos c16] at H
                      have c16b0 : (((rd_T28 t256 x21_1).f0) == 0) = true := beq_iff_eq.mpr c16
                      have c16b1 : (((rd_T28 t256 x21_1).f0) != 0) = false := bne_eq_false_iff_eq.mpr c16
                      clear c16
                      (first | rw [c16b0] | (simp only [i64_w, i32_w]; rw [c16b0]) | skip)
                      replace H := Option.bind_eq_some_iff.mp H
                      obtain ⟨t264, A170, H⟩ := H
                      replace H : (laws_FnScriptWhole.j1 k1 x3_1 x4_1 t256 (t256.length : Int) x21_1 t264 ((rd_T28 t256 x21_1).f0) ((rd_T28 t256 x21_1).f1) ((rd_T28 t256 x21_1).f2)) = some r := H
                      have A17 := Aside0.mk A170
                      clear A170
                      have H' := Aside0.mk H
                      clear H
                      have hcz18_0 : w13.cell? ⟨gb263, 0, none⟩ = some (.int .i64 0) := (blk_cell BK263.out 0).trans rfl
                      have hcz18_1 : w13.cell? ⟨gb263, 1, none⟩ = some (.int .i64 0) := (blk_cell BK263.out 1).trans rfl
                      have hcz18_2 : w13.cell? ⟨gb263, 2, none⟩ = some (.int .i64 0) := (blk_cell BK263.out 2).trans rfl
                      have hfz18_0 := blk_frozen BK263.out 0
                      have hfz18_1 := blk_frozen BK263.out 1
                      have hfz18_2 := blk_frozen BK263.out 2
                      obtain ⟨Ao19, co19, eo19⟩ := Kd.R_slice HO_3.out
                      subst eo19
                      go_wp2_with (first | (go_at_call 5; (with_reducible refine (spec_Free.calls k1 _ _ x3_1 ((rd_T28 t256 x21_1).f1) ((rd_T28 t256 x21_1).f2) t264 _ ?side1 ?side2 A17.out).mono ?_); (case side1 => refine (Kd.R_reads' (e := 4) (base := w.heap.size) (ok := fun k_ => True) (n := x3_1.length) (c := co19) ?_).2.2; exact (by (with_reducible repeat (first | apply Kd.R_alloc | apply Kd.R_drewN | apply Kd.R_drew)); exact (Kd.R_mono (Kd.R_far (p := ⟨gb263, 2, none⟩) (Kd.R_far (p := ⟨gb263, 1, none⟩) (Kd.R_far (p := ⟨gb263, 0, none⟩) (Kd.R_types HO_3.out BK263.out (by decide)) (fun _ hk => hk.2) (.int .i64 ((rd_T28 t256 x21_1).f0))) (fun _ hk => hk.2) (.int .i64 ((rd_T28 t256 x21_1).f1))) (fun _ hk => hk.2) (.int .i64 ((rd_T28 t256 x21_1).f2))) (fun _ h_ => h_.1)))); (case side2 => exact (Kd.R_reads' HO_3.out).2.1); rintro e w' ⟨rfl, ⟨nd, rfl⟩⟩))
                      go_meet
                      case rel => exact ⟨_, (t264), (by first | rfl | (simp; done) | (simp [*]; done)), H', ⟨by have := HK1.out; first | omega | exact Nat.le_refl _⟩, ⟨by (with_reducible repeat (first | apply Kd.R_alloc | apply Kd.R_drewN | apply Kd.R_drew)); exact Kd.R_mono (Kd.R_far (p := ⟨gb263, 2, none⟩) (Kd.R_far (p := ⟨gb263, 1, none⟩) (Kd.R_far (p := ⟨gb263, 0, none⟩) (Kd.R_types HO_3.out BK263.out (by decide)) (fun _ hk => hk.2) (.int .i64 ((rd_T28 t256 x21_1).f0))) (fun _ hk => hk.2) (.int .i64 ((rd_T28 t256 x21_1).f1))) (fun _ hk => hk.2) (.int .i64 ((rd_T28 t256 x21_1).f2))) (fun _ hk => trivial)⟩, ⟨by (with_reducible repeat (first | apply Kd.R_alloc | apply Kd.R_drewN | apply Kd.R_drew)); exact Kd.R_mono (Kd.R_far (p := ⟨gb263, 2, none⟩) (Kd.R_far (p := ⟨gb263, 1, none⟩) (Kd.R_far (p := ⟨gb263, 0, none⟩) (Kd.R_types HO_4.out BK263.out (by decide)) (fun _ hk => hk.2) (.int .i64 ((rd_T28 t256 x21_1).f0))) (fun _ hk => hk.2) (.int .i64 ((rd_T28 t256 x21_1).f1))) (fun _ hk => hk.2) (.int .i64 ((rd_T28 t256 x21_1).f2))) (fun _ hk => trivial)⟩, ⟨by (with_reducible repeat (first | apply Kd.R_alloc | apply Kd.R_drewN | apply Kd.R_drew)); exact Kd.R_mono (Kd.R_far (p := ⟨gb263, 2, none⟩) (Kd.R_far (p := ⟨gb263, 1, none⟩) (Kd.R_far (p := ⟨gb263, 0, none⟩) (Kd.R_mono HO_19.out (fun k_ hk => (⟨hk, hk.2⟩ : _ ∧ k_ ≠ gb263))) (fun _ hk => hk.2) (.int .i64 ((rd_T28 t256 x21_1).f0))) (fun _ hk => hk.2) (.int .i64 ((rd_T28 t256 x21_1).f1))) (fun _ hk => hk.2) (.int .i64 ((rd_T28 t256 x21_1).f2))) (fun _ hk => hk.1.2)⟩, ⟨by (with_reducible repeat (first | refine blk_drewN ?_ _ | refine blk_drew ?_ | refine blk_alloc ?_ _)); refine blk_put (cs := #[.int .i64 ((rd_T28 t256 x21_1).f0), .int .i64 ((rd_T28 t256 x21_1).f1), .int .i64 0]) ?_ 2 _ rfl; (with_reducible repeat (first | refine blk_drewN ?_ _ | refine blk_drew ?_ | refine blk_alloc ?_ _)); refine blk_put (cs := #[.int .i64 ((rd_T28 t256 x21_1).f0), .int .i64 0, .int .i64 0]) ?_ 1 _ rfl; (with_reducible repeat (first | refine blk_drewN ?_ _ | refine blk_drew ?_ | refine blk_alloc ?_ _)); refine blk_put (cs := #[.int .i64 0, .int .i64 0, .int .i64 0]) ?_ 0 _ rfl; (with_reducible repeat (first | refine blk_drewN ?_ _ | refine blk_drew ?_ | refine blk_alloc ?_ _)); exact BK263.out⟩, ⟨by repeat (first | (with_reducible first | exact HB.out | apply below_alloc | apply pw_below_drewN | apply below_drew1 | refine below_set ?_ GE263.out) | exact HB.out)⟩⟩
                    · as_aux_lemma =>
                      rw [if_neg c16] at H
                      have c16b0 : (((rd_T28 t256 x21_1).f0) == 0) = false := beq_eq_false_iff_ne.mpr c16
                      have c16b1 : (((rd_T28 t256 x21_1).f0) != 0) = true := bne_iff_ne.mpr c16
                      (first | rw [c16b0] | (simp only [i64_w, i32_w]; rw [c16b0]) | skip)
                      have H' := Aside0.mk H
                      clear H
                      have hcz20_0 : w13.cell? ⟨gb263, 0, none⟩ = some (.int .i64 0) := (blk_cell BK263.out 0).trans rfl
                      have hcz20_1 : w13.cell? ⟨gb263, 1, none⟩ = some (.int .i64 0) := (blk_cell BK263.out 1).trans rfl
                      have hcz20_2 : w13.cell? ⟨gb263, 2, none⟩ = some (.int .i64 0) := (blk_cell BK263.out 2).trans rfl
                      have hfz20_0 := blk_frozen BK263.out 0
                      have hfz20_1 := blk_frozen BK263.out 1
                      have hfz20_2 := blk_frozen BK263.out 2
                      go_wp2
                      go_meet
                      case rel => exact ⟨_, (false), (by first | rfl | (simp; done) | (simp [*]; done)), H', ⟨by have := HK1.out; first | omega | exact Nat.le_refl _⟩, ⟨by (with_reducible repeat (first | apply Kd.R_alloc | apply Kd.R_drewN | apply Kd.R_drew)); exact Kd.R_mono (Kd.R_far (p := ⟨gb263, 2, none⟩) (Kd.R_far (p := ⟨gb263, 1, none⟩) (Kd.R_far (p := ⟨gb263, 0, none⟩) (Kd.R_types HO_3.out BK263.out (by decide)) (fun _ hk => hk.2) (.int .i64 ((rd_T28 t256 x21_1).f0))) (fun _ hk => hk.2) (.int .i64 ((rd_T28 t256 x21_1).f1))) (fun _ hk => hk.2) (.int .i64 ((rd_T28 t256 x21_1).f2))) (fun _ hk => trivial)⟩, ⟨by (with_reducible repeat (first | apply Kd.R_alloc | apply Kd.R_drewN | apply Kd.R_drew)); exact Kd.R_mono (Kd.R_far (p := ⟨gb263, 2, none⟩) (Kd.R_far (p := ⟨gb263, 1, none⟩) (Kd.R_far (p := ⟨gb263, 0, none⟩) (Kd.R_types HO_4.out BK263.out (by decide)) (fun _ hk => hk.2) (.int .i64 ((rd_T28 t256 x21_1).f0))) (fun _ hk => hk.2) (.int .i64 ((rd_T28 t256 x21_1).f1))) (fun _ hk => hk.2) (.int .i64 ((rd_T28 t256 x21_1).f2))) (fun _ hk => trivial)⟩, ⟨by (with_reducible repeat (first | apply Kd.R_alloc | apply Kd.R_drewN | apply Kd.R_drew)); exact Kd.R_mono (Kd.R_far (p := ⟨gb263, 2, none⟩) (Kd.R_far (p := ⟨gb263, 1, none⟩) (Kd.R_far (p := ⟨gb263, 0, none⟩) (Kd.R_mono HO_19.out (fun k_ hk => (⟨hk, hk.2⟩ : _ ∧ k_ ≠ gb263))) (fun _ hk => hk.2) (.int .i64 ((rd_T28 t256 x21_1).f0))) (fun _ hk => hk.2) (.int .i64 ((rd_T28 t256 x21_1).f1))) (fun _ hk => hk.2) (.int .i64 ((rd_T28 t256 x21_1).f2))) (fun _ hk => hk.1.2)⟩, ⟨by (with_reducible repeat (first | refine blk_drewN ?_ _ | refine blk_drew ?_ | refine blk_alloc ?_ _)); refine blk_put (cs := #[.int .i64 ((rd_T28 t256 x21_1).f0), .int .i64 ((rd_T28 t256 x21_1).f1), .int .i64 0]) ?_ 2 _ rfl; (with_reducible repeat (first | refine blk_drewN ?_ _ | refine blk_drew ?_ | refine blk_alloc ?_ _)); refine blk_put (cs := #[.int .i64 ((rd_T28 t256 x21_1).f0), .int .i64 0, .int .i64 0]) ?_ 1 _ rfl; (with_reducible repeat (first | refine blk_drewN ?_ _ | refine blk_drew ?_ | refine blk_alloc ?_ _)); refine blk_put (cs := #[.int .i64 0, .int .i64 0, .int .i64 0]) ?_ 0 _ rfl; (with_reducible repeat (first | refine blk_drewN ?_ _ | refine blk_drew ?_ | refine blk_alloc ?_ _)); exact BK263.out⟩, ⟨by repeat (first | (with_reducible first | exact HB.out | apply below_alloc | apply pw_below_drewN | apply below_drew1 | refine below_set ?_ GE263.out) | exact HB.out)⟩⟩
                  case rest =>
                    as_aux_lemma =>
                    clear HC15
                    try clear c1
                    try clear c2
                    try clear c2b0
                    try clear c2b1
                    try clear p2
                    try clear q2
                    try clear hx2
                    try clear c3
                    try clear c3b0
                    try clear c3b1
                    try clear c4
                    try clear c9
                    try clear c9b0
                    try clear c10
                    try clear c10b0
                    try clear c11
                    try clear c11b0
                    try clear c16
                    try clear c16b0
                    try clear c16b1
                    try clear hcz14_0
                    try clear hcz14_1
                    try clear hcz14_2
                    try clear hcz18_0
                    try clear hcz18_1
                    try clear hcz18_2
                    try clear hcz20_0
                    try clear hcz20_1
                    try clear hcz20_2
                    try clear hfz14_0
                    try clear hfz14_1
                    try clear hfz14_2
                    try clear hfz18_0
                    try clear hfz18_1
                    try clear hfz18_2
                    try clear hfz20_0
                    try clear hfz20_1
                    try clear hfz20_2
                    try clear hx262_0
                    try clear hx262_1
                    try clear hx262_2
                    try clear p2
                    try clear p262
                    try clear q262
                    obtain ⟨kq, x27_14, rfl, HA, HJ14, HO_3, HO_4, HO_19, BK263, HB⟩ := hcut
                    cases kq with
                    | zero => exact absurd HA.out (by simp [laws_FnScriptWhole.j1])
                    | succ kj14 =>
                      have H := HA.out
                      clear HA
                      simp only [laws_FnScriptWhole.j1] at H
                      by_cases c21 : x27_14 = true
                      · as_aux_lemma =>
                        subst c21
                        have H1 : ((spec_Put.f kj14 x3_1 ((rd_T28 t256 x21_1).f1) ((rd_T28 t256 x21_1).f2) true).bind fun t265 => ((impl_Make.f (IntKind.u64.wrap (((rd_T28 t256 x21_1).f1))) (IntKind.u64.wrap (wrap64 (((rd_T28 t256 x21_1).f1) + ((rd_T28 t256 x21_1).f2))))).bind fun bt266 => ((impl_Add.f kj14 x4_1 bt266.1 bt266.2).bind fun bt268 => (laws_FnScriptWhole.j3 kj14 t265 bt268.1 bt268.2 t256 (t256.length : Int) x21_1 ((rd_T28 t256 x21_1).f0) ((rd_T28 t256 x21_1).f1) ((rd_T28 t256 x21_1).f2))))) = some r := by rw [if_pos rfl] at H; exact H
                        clear H
                        have H := H1
                        clear H1
                        replace H := Option.bind_eq_some_iff.mp H
                        obtain ⟨t265, A220, H⟩ := H
                        replace H : ((impl_Make.f (IntKind.u64.wrap (((rd_T28 t256 x21_1).f1))) (IntKind.u64.wrap (wrap64 (((rd_T28 t256 x21_1).f1) + ((rd_T28 t256 x21_1).f2))))).bind fun bt266 => ((impl_Add.f kj14 x4_1 bt266.1 bt266.2).bind fun bt268 => (laws_FnScriptWhole.j3 kj14 t265 bt268.1 bt268.2 t256 (t256.length : Int) x21_1 ((rd_T28 t256 x21_1).f0) ((rd_T28 t256 x21_1).f1) ((rd_T28 t256 x21_1).f2)))) = some r := H
                        have A22 := Aside0.mk A220
                        clear A220
                        replace H := Option.bind_eq_some_iff.mp H
                        obtain ⟨⟨t266, t267⟩, A230, H⟩ := H
                        replace H : ((impl_Add.f kj14 x4_1 t266 t267).bind fun bt268 => (laws_FnScriptWhole.j3 kj14 t265 bt268.1 bt268.2 t256 (t256.length : Int) x21_1 ((rd_T28 t256 x21_1).f0) ((rd_T28 t256 x21_1).f1) ((rd_T28 t256 x21_1).f2))) = some r := H
                        have A23 := Aside0.mk A230
                        clear A230
                        replace H := Option.bind_eq_some_iff.mp H
                        obtain ⟨⟨t268, t271⟩, A240, H⟩ := H
                        replace H : (laws_FnScriptWhole.j3 kj14 t265 t268 t271 t256 (t256.length : Int) x21_1 ((rd_T28 t256 x21_1).f0) ((rd_T28 t256 x21_1).f1) ((rd_T28 t256 x21_1).f2)) = some r := H
                        have A24 := Aside0.mk A240
                        clear A240
                        have H' := Aside0.mk H
                        clear H
                        have hcz25_0 : wc.cell? ⟨gb263, 0, none⟩ = some (.int .i64 ((rd_T28 t256 x21_1).f0)) := (blk_cell BK263.out 0).trans rfl
                        have hcz25_1 : wc.cell? ⟨gb263, 1, none⟩ = some (.int .i64 ((rd_T28 t256 x21_1).f1)) := (blk_cell BK263.out 1).trans rfl
                        have hcz25_2 : wc.cell? ⟨gb263, 2, none⟩ = some (.int .i64 ((rd_T28 t256 x21_1).f2)) := (blk_cell BK263.out 2).trans rfl
                        have hfz25_0 := blk_frozen BK263.out 0
                        have hfz25_1 := blk_frozen BK263.out 1
                        have hfz25_2 := blk_frozen BK263.out 2
                        obtain ⟨Ao26, co26, eo26⟩ := Kd.R_slice HO_3.out
                        subst eo26
                        go_wp2_with (first | ((with_reducible refine gate_callee (f := 6) rfl ?_); refine goesL_ (some 44) rfl rfl Try.func6 (by kernel_rfl) rfl #[.slice Ao26 x3_1.length co26, .int .i64 ((rd_T28 t256 x21_1).f1), .int .i64 ((rd_T28 t256 x21_1).f2), .bool true] rfl (by (try simp only [List.map_toArray, List.map_cons, List.map_nil]); first | done | rfl | (simp only [List.length_drop, List.length_take]; rfl)) ?_; (with_reducible refine (spec_Put.calls kj14 (fun k_ => some k_ = (.slice Ao26 x3_1.length co26 : Value).ownBlock) (.slice Ao26 x3_1.length co26) x3_1 ((rd_T28 t256 x21_1).f1) ((rd_T28 t256 x21_1).f2) true t265 w _ ?side1 ?side2 A22.out).mono ?_); (case side1 => repeat (first | (with_reducible first | exact HB.out | apply below_alloc | apply pw_below_drewN | apply below_drew1 | refine below_set ?_ GE263.out) | exact HB.out)); (case side2 => exact Kd.R_tight rfl HO_3.out); rintro e w27 ⟨rfl, hy0, hb, hkp⟩; refine ⟨_, rfl, ?_⟩; have n0_ := Aside0.mk (Kd.R_reok rfl hy0 (fun k_ e_ => HO_3.out.1 k_ e_)); have n1_ := Aside0.mk (Kd.R_mono (ok' := fun k_ => True) (Kd.R_keptB ((Kd.R_apart' HO_4.out (Kd.R_typed HO_3.out) (by decide))) hkp (fun k_ hk_ hs_ => (hk_.2) hs_)) (fun k_ hk_ => trivial)); have n2_ := Aside0.mk (Kd.R_mono (ok' := fun k_ => k_ ≠ gb263) (Kd.R_keptB ((Kd.R_apart' HO_19.out (Kd.R_typed HO_3.out) (by decide))) hkp (fun k_ hk_ hs_ => (hk_.2) hs_)) (fun k_ hk_ => hk_.1.1)); have n3_ := Aside0.mk (blk_kept (by (with_reducible repeat (first | refine blk_drewN ?_ _ | refine blk_drew ?_ | refine blk_alloc ?_ _)); exact BK263.out) hkp (fun hs_ => (fun e_ => (Kd.R_ne HO_3.out BK263.out (by decide)) e_) hs_)); have n4_ := Aside0.mk (hb); clear HO_3; clear HO_4; clear HO_19; clear BK263; clear HB; have HO_3 := n0_; have HO_4 := n1_; have HO_19 := n2_; have BK263 := n3_; have HB := n4_; clear n0_ n1_ n2_ n3_ n4_; (try clear hb); (try clear hkp); (try clear hy0); have hcz28_0 : w27.cell? ⟨gb263, 0, none⟩ = some (.int .i64 ((rd_T28 t256 x21_1).f0)) := (blk_cell BK263.out 0).trans rfl; have hcz28_1 : w27.cell? ⟨gb263, 1, none⟩ = some (.int .i64 ((rd_T28 t256 x21_1).f1)) := (blk_cell BK263.out 1).trans rfl; have hcz28_2 : w27.cell? ⟨gb263, 2, none⟩ = some (.int .i64 ((rd_T28 t256 x21_1).f2)) := (blk_cell BK263.out 2).trans rfl; have hfz28_0 := blk_frozen BK263.out 0; have hfz28_1 := blk_frozen BK263.out 1; have hfz28_2 := blk_frozen BK263.out 2) | ((with_reducible refine gate_callee (f := 8) rfl ?_); refine goesL_ (some 56) rfl rfl Try.func8 (by kernel_rfl) rfl #[.int .u64 (IntKind.u64.wrap (((rd_T28 t256 x21_1).f1))), .int .u64 (IntKind.u64.wrap (wrap64 (((rd_T28 t256 x21_1).f1) + ((rd_T28 t256 x21_1).f2))))] rfl (by (try simp only [List.map_toArray, List.map_cons, List.map_nil]); first | done | rfl | (simp only [List.length_drop, List.length_take]; rfl)) ?_; (with_reducible refine (impl_Make.calls (IntKind.u64.wrap (((rd_T28 t256 x21_1).f1))) (IntKind.u64.wrap (wrap64 (((rd_T28 t256 x21_1).f1) + ((rd_T28 t256 x21_1).f2)))) t266 t267 _ A23.out).mono ?_); rintro e w29 ⟨rfl, hb⟩; refine ⟨_, rfl, ?_⟩; have n0_ := Aside0.mk (Kd.R_below (by (with_reducible repeat (first | apply Kd.R_alloc | apply Kd.R_drewN | apply Kd.R_drew)); exact HO_3.out) hb); have n1_ := Aside0.mk (Kd.R_below (by (with_reducible repeat (first | apply Kd.R_alloc | apply Kd.R_drewN | apply Kd.R_drew)); exact HO_4.out) hb); have n2_ := Aside0.mk (Kd.R_below (by (with_reducible repeat (first | apply Kd.R_alloc | apply Kd.R_drewN | apply Kd.R_drew)); exact HO_19.out) hb); have n3_ := Aside0.mk (blk_below (g := gb263) (o := .cells #[.int .i64 ((rd_T28 t256 x21_1).f0), .int .i64 ((rd_T28 t256 x21_1).f1), .int .i64 ((rd_T28 t256 x21_1).f2)] 28 (0, 0)) (by (with_reducible repeat (first | refine blk_drewN ?_ _ | refine blk_drew ?_ | refine blk_alloc ?_ _)); exact BK263.out) hb); have n4_ := Aside0.mk (below_step (by repeat (first | (with_reducible first | exact HB.out | apply below_alloc | apply pw_below_drewN | apply below_drew1 | refine below_set ?_ GE263.out) | exact HB.out)) hb); clear HO_3; clear HO_4; clear HO_19; clear BK263; clear HB; have HO_3 := n0_; have HO_4 := n1_; have HO_19 := n2_; have BK263 := n3_; have HB := n4_; clear n0_ n1_ n2_ n3_ n4_; (try clear hb); (try clear hb2); (try clear hk); (try clear hi); obtain ⟨Ao30, co30, eo30⟩ := Kd.R_slice HO_4.out; subst eo30) | ((with_reducible refine gate_callee (f := 7) rfl ?_); refine goesL_ (some 57) rfl rfl Try.func7 (by kernel_rfl) rfl #[.slice Ao30 x4_1.length co30, .agg #[.int .u64 t266, .int .u64 t267]] rfl (by (try simp only [List.map_toArray, List.map_cons, List.map_nil]); first | done | rfl | (simp only [List.length_drop, List.length_take]; rfl)) ?_; (with_reducible refine (impl_Add.calls kj14 _ _ x4_1 t266 t267 t268 t271 _ ?side1 ?side2 A24.out).mono ?_); (case side1 => repeat (first | exact (Kd.R_reads' HO_4.out).2.2 | (with_reducible refine Kd.C_alloc ?_ _) | (with_reducible refine Kd.C_drewN ?_ _) | (with_reducible refine Kd.C_drew ?_))); (case side2 => exact (Kd.R_reads' HO_4.out).2.1); rintro e w31 ⟨v269, rfl, ho0, hb⟩; refine ⟨_, rfl, ?_⟩; have n0_ := Aside0.mk (Kd.R_below (by (with_reducible repeat (first | apply Kd.R_alloc | apply Kd.R_drewN | apply Kd.R_drew)); exact HO_3.out) hb); have n1_ := Aside0.mk (Kd.R_elder' (by (with_reducible repeat (first | apply Kd.R_alloc | apply Kd.R_drewN | apply Kd.R_drew)); exact HO_4.out) (Kd.R_base ho0) hb); have n2_ := Aside0.mk (Kd.R_below (by (with_reducible repeat (first | apply Kd.R_alloc | apply Kd.R_drewN | apply Kd.R_drew)); exact HO_19.out) hb); have n3_ := Aside0.mk (Kd.R_lower (Kd.R_new' ho0 (Kd.R_lt (by (with_reducible repeat (first | apply Kd.R_alloc | apply Kd.R_drewN | apply Kd.R_drew)); exact HO_4.out))) (below_size (by repeat (first | (with_reducible first | exact HB.out | apply below_alloc | apply pw_below_drewN | apply below_drew1 | refine below_set ?_ GE263.out) | exact HB.out)))); have n4_ := Aside0.mk (blk_below (g := gb263) (o := .cells #[.int .i64 ((rd_T28 t256 x21_1).f0), .int .i64 ((rd_T28 t256 x21_1).f1), .int .i64 ((rd_T28 t256 x21_1).f2)] 28 (0, 0)) (by (with_reducible repeat (first | refine blk_drewN ?_ _ | refine blk_drew ?_ | refine blk_alloc ?_ _)); exact BK263.out) hb); have n5_ := Aside0.mk (below_step (by repeat (first | (with_reducible first | exact HB.out | apply below_alloc | apply pw_below_drewN | apply below_drew1 | refine below_set ?_ GE263.out) | exact HB.out)) hb); clear HO_3; clear HO_4; clear HO_19; clear BK263; clear HB; have HO_3 := n0_; have HO_4 := n1_; have HO_19 := n2_; have HO270 := n3_; have BK263 := n4_; have HB := n5_; clear n0_ n1_ n2_ n3_ n4_ n5_; (try clear hb); (try clear hb2); (try clear hk); (try clear hi); (try clear ho0)))
                        go_meet
                        case rel => exact ⟨_, (t265), (t268), (t271), (by first | rfl | (simp; done) | (simp [*]; done)), H', ⟨by have := HK1.out; have := HJ14.out; first | omega | exact Nat.le_refl _⟩, ⟨by (with_reducible repeat (first | apply Kd.R_alloc | apply Kd.R_drewN | apply Kd.R_drew)); exact HO_3.out⟩, ⟨by (with_reducible repeat (first | apply Kd.R_alloc | apply Kd.R_drewN | apply Kd.R_drew)); exact Kd.R_mono HO270.out (fun _ hk => trivial)⟩, ⟨by (with_reducible repeat (first | apply Kd.R_alloc | apply Kd.R_drewN | apply Kd.R_drew)); exact HO_19.out⟩, ⟨by (with_reducible repeat (first | refine blk_drewN ?_ _ | refine blk_drew ?_ | refine blk_alloc ?_ _)); exact BK263.out⟩, ⟨by repeat (first | (with_reducible first | exact HB.out | apply below_alloc | apply pw_below_drewN | apply below_drew1 | refine below_set ?_ GE263.out) | exact HB.out)⟩⟩
                      · as_aux_lemma =>
                        replace c21 := Bool.eq_false_iff.mpr c21
                        subst c21
                        have H1 : (if ((rd_T28 t256 x21_1).f0) = 1 then ((spec_Put.f kj14 x3_1 ((rd_T28 t256 x21_1).f1) (wrap64 (600 - ((rd_T28 t256 x21_1).f1))) false).bind fun t272 => ((impl_CutFrom.f kj14 x4_1 (IntKind.u64.wrap (((rd_T28 t256 x21_1).f1)))).bind fun bt273 => (laws_FnScriptWhole.j3 kj14 t272 bt273.1 bt273.2 t256 (t256.length : Int) x21_1 ((rd_T28 t256 x21_1).f0) ((rd_T28 t256 x21_1).f1) ((rd_T28 t256 x21_1).f2)))) else (if ((rd_T28 t256 x21_1).f0) = 2 then (laws_FnScriptWhole.j2 kj14 x3_1 x4_1 t256 (t256.length : Int) x21_1 (decide ((x4_1.length : Int) > 0)) ((rd_T28 t256 x21_1).f0) ((rd_T28 t256 x21_1).f1) ((rd_T28 t256 x21_1).f2)) else (laws_FnScriptWhole.j2 kj14 x3_1 x4_1 t256 (t256.length : Int) x21_1 false ((rd_T28 t256 x21_1).f0) ((rd_T28 t256 x21_1).f1) ((rd_T28 t256 x21_1).f2)))) = some r := by rw [if_neg (show ¬ (false = true) by decide)] at H; exact H
                        clear H
                        have H := H1
                        clear H1
                        by_cases c32 : ((rd_T28 t256 x21_1).f0) = 1
                        · as_aux_lemma =>
                          rw [if_pos c32] at H
                          have c32b0 : (((rd_T28 t256 x21_1).f0) == 1) = true := beq_iff_eq.mpr c32
                          have c32b1 : (((rd_T28 t256 x21_1).f0) != 1) = false := bne_eq_false_iff_eq.mpr c32
                          clear c32
                          replace H := Option.bind_eq_some_iff.mp H
                          obtain ⟨t272, A330, H⟩ := H
                          replace H : ((impl_CutFrom.f kj14 x4_1 (IntKind.u64.wrap (((rd_T28 t256 x21_1).f1)))).bind fun bt273 => (laws_FnScriptWhole.j3 kj14 t272 bt273.1 bt273.2 t256 (t256.length : Int) x21_1 ((rd_T28 t256 x21_1).f0) ((rd_T28 t256 x21_1).f1) ((rd_T28 t256 x21_1).f2))) = some r := H
                          have A33 := Aside0.mk A330
                          clear A330
                          replace H := Option.bind_eq_some_iff.mp H
                          obtain ⟨⟨t273, t274⟩, A340, H⟩ := H
                          replace H : (laws_FnScriptWhole.j3 kj14 t272 t273 t274 t256 (t256.length : Int) x21_1 ((rd_T28 t256 x21_1).f0) ((rd_T28 t256 x21_1).f1) ((rd_T28 t256 x21_1).f2)) = some r := H
                          have A34 := Aside0.mk A340
                          clear A340
                          have H' := Aside0.mk H
                          clear H
                          have hcz35_0 : wc.cell? ⟨gb263, 0, none⟩ = some (.int .i64 ((rd_T28 t256 x21_1).f0)) := (blk_cell BK263.out 0).trans rfl
                          have hcz35_1 : wc.cell? ⟨gb263, 1, none⟩ = some (.int .i64 ((rd_T28 t256 x21_1).f1)) := (blk_cell BK263.out 1).trans rfl
                          have hcz35_2 : wc.cell? ⟨gb263, 2, none⟩ = some (.int .i64 ((rd_T28 t256 x21_1).f2)) := (blk_cell BK263.out 2).trans rfl
                          have hfz35_0 := blk_frozen BK263.out 0
                          have hfz35_1 := blk_frozen BK263.out 1
                          have hfz35_2 := blk_frozen BK263.out 2
                          obtain ⟨Ao36, co36, eo36⟩ := Kd.R_slice HO_3.out
                          subst eo36
                          go_wp2_with (first | ((with_reducible refine gate_callee (f := 6) rfl ?_); refine goesL_ (some 70) rfl rfl Try.func6 (by kernel_rfl) rfl #[.slice Ao36 x3_1.length co36, .int .i64 ((rd_T28 t256 x21_1).f1), .int .i64 (wrap64 (600 - ((rd_T28 t256 x21_1).f1))), .bool false] rfl (by (try simp only [List.map_toArray, List.map_cons, List.map_nil]); first | done | rfl | (simp only [List.length_drop, List.length_take]; rfl)) ?_; (with_reducible refine (spec_Put.calls kj14 (fun k_ => some k_ = (.slice Ao36 x3_1.length co36 : Value).ownBlock) (.slice Ao36 x3_1.length co36) x3_1 ((rd_T28 t256 x21_1).f1) (wrap64 (600 - ((rd_T28 t256 x21_1).f1))) false t272 w _ ?side1 ?side2 A33.out).mono ?_); (case side1 => repeat (first | (with_reducible first | exact HB.out | apply below_alloc | apply pw_below_drewN | apply below_drew1 | refine below_set ?_ GE263.out) | exact HB.out)); (case side2 => exact Kd.R_tight rfl HO_3.out); rintro e w37 ⟨rfl, hy0, hb, hkp⟩; refine ⟨_, rfl, ?_⟩; have n0_ := Aside0.mk (Kd.R_reok rfl hy0 (fun k_ e_ => HO_3.out.1 k_ e_)); have n1_ := Aside0.mk (Kd.R_mono (ok' := fun k_ => True) (Kd.R_keptB ((Kd.R_apart' HO_4.out (Kd.R_typed HO_3.out) (by decide))) hkp (fun k_ hk_ hs_ => (hk_.2) hs_)) (fun k_ hk_ => trivial)); have n2_ := Aside0.mk (Kd.R_mono (ok' := fun k_ => k_ ≠ gb263) (Kd.R_keptB ((Kd.R_apart' HO_19.out (Kd.R_typed HO_3.out) (by decide))) hkp (fun k_ hk_ hs_ => (hk_.2) hs_)) (fun k_ hk_ => hk_.1.1)); have n3_ := Aside0.mk (blk_kept (by (with_reducible repeat (first | refine blk_drewN ?_ _ | refine blk_drew ?_ | refine blk_alloc ?_ _)); exact BK263.out) hkp (fun hs_ => (fun e_ => (Kd.R_ne HO_3.out BK263.out (by decide)) e_) hs_)); have n4_ := Aside0.mk (hb); clear HO_3; clear HO_4; clear HO_19; clear BK263; clear HB; have HO_3 := n0_; have HO_4 := n1_; have HO_19 := n2_; have BK263 := n3_; have HB := n4_; clear n0_ n1_ n2_ n3_ n4_; (try clear hb); (try clear hkp); (try clear hy0); have hcz38_0 : w37.cell? ⟨gb263, 0, none⟩ = some (.int .i64 ((rd_T28 t256 x21_1).f0)) := (blk_cell BK263.out 0).trans rfl; have hcz38_1 : w37.cell? ⟨gb263, 1, none⟩ = some (.int .i64 ((rd_T28 t256 x21_1).f1)) := (blk_cell BK263.out 1).trans rfl; have hcz38_2 : w37.cell? ⟨gb263, 2, none⟩ = some (.int .i64 ((rd_T28 t256 x21_1).f2)) := (blk_cell BK263.out 2).trans rfl; have hfz38_0 := blk_frozen BK263.out 0; have hfz38_1 := blk_frozen BK263.out 1; have hfz38_2 := blk_frozen BK263.out 2; obtain ⟨Ao39, co39, eo39⟩ := Kd.R_slice HO_4.out; subst eo39) | ((with_reducible refine gate_callee (f := 9) rfl ?_); refine goesL_ (some 76) rfl rfl Try.func9 (by kernel_rfl) rfl #[.slice Ao39 x4_1.length co39, .int .u64 (IntKind.u64.wrap (((rd_T28 t256 x21_1).f1)))] rfl (by (try simp only [List.map_toArray, List.map_cons, List.map_nil]); first | done | rfl | (simp only [List.length_drop, List.length_take]; rfl)) ?_; (with_reducible refine (impl_CutFrom.calls kj14 _ _ x4_1 (IntKind.u64.wrap (((rd_T28 t256 x21_1).f1))) t273 t274 _ ?side1 ?side2 A34.out).mono ?_); (case side1 => repeat (first | exact (Kd.R_reads' HO_4.out).2.2 | (with_reducible refine Kd.C_alloc ?_ _) | (with_reducible refine Kd.C_drewN ?_ _) | (with_reducible refine Kd.C_drew ?_))); (case side2 => exact (Kd.R_reads' HO_4.out).2.1); rintro e w40 ⟨v275, rfl, ho0, hb⟩; refine ⟨_, rfl, ?_⟩; have n0_ := Aside0.mk (Kd.R_below (by (with_reducible repeat (first | apply Kd.R_alloc | apply Kd.R_drewN | apply Kd.R_drew)); exact HO_3.out) hb); have n1_ := Aside0.mk (Kd.R_elder' (by (with_reducible repeat (first | apply Kd.R_alloc | apply Kd.R_drewN | apply Kd.R_drew)); exact HO_4.out) (Kd.R_base ho0) hb); have n2_ := Aside0.mk (Kd.R_below (by (with_reducible repeat (first | apply Kd.R_alloc | apply Kd.R_drewN | apply Kd.R_drew)); exact HO_19.out) hb); have n3_ := Aside0.mk (Kd.R_lower (Kd.R_new' ho0 (Kd.R_lt (by (with_reducible repeat (first | apply Kd.R_alloc | apply Kd.R_drewN | apply Kd.R_drew)); exact HO_4.out))) (below_size (by repeat (first | (with_reducible first | exact HB.out | apply below_alloc | apply pw_below_drewN | apply below_drew1 | refine below_set ?_ GE263.out) | exact HB.out)))); have n4_ := Aside0.mk (blk_below (g := gb263) (o := .cells #[.int .i64 ((rd_T28 t256 x21_1).f0), .int .i64 ((rd_T28 t256 x21_1).f1), .int .i64 ((rd_T28 t256 x21_1).f2)] 28 (0, 0)) (by (with_reducible repeat (first | refine blk_drewN ?_ _ | refine blk_drew ?_ | refine blk_alloc ?_ _)); exact BK263.out) hb); have n5_ := Aside0.mk (below_step (by repeat (first | (with_reducible first | exact HB.out | apply below_alloc | apply pw_below_drewN | apply below_drew1 | refine below_set ?_ GE263.out) | exact HB.out)) hb); clear HO_3; clear HO_4; clear HO_19; clear BK263; clear HB; have HO_3 := n0_; have HO_4 := n1_; have HO_19 := n2_; have HO276 := n3_; have BK263 := n4_; have HB := n5_; clear n0_ n1_ n2_ n3_ n4_ n5_; (try clear hb); (try clear hb2); (try clear hk); (try clear hi); (try clear ho0)))
                          go_meet
                          case rel => exact ⟨_, (t272), (t273), (t274), (by first | rfl | (simp; done) | (simp [*]; done)), H', ⟨by have := HK1.out; have := HJ14.out; first | omega | exact Nat.le_refl _⟩, ⟨by (with_reducible repeat (first | apply Kd.R_alloc | apply Kd.R_drewN | apply Kd.R_drew)); exact HO_3.out⟩, ⟨by (with_reducible repeat (first | apply Kd.R_alloc | apply Kd.R_drewN | apply Kd.R_drew)); exact Kd.R_mono HO276.out (fun _ hk => trivial)⟩, ⟨by (with_reducible repeat (first | apply Kd.R_alloc | apply Kd.R_drewN | apply Kd.R_drew)); exact HO_19.out⟩, ⟨by (with_reducible repeat (first | refine blk_drewN ?_ _ | refine blk_drew ?_ | refine blk_alloc ?_ _)); exact BK263.out⟩, ⟨by repeat (first | (with_reducible first | exact HB.out | apply below_alloc | apply pw_below_drewN | apply below_drew1 | refine below_set ?_ GE263.out) | exact HB.out)⟩⟩
                        · as_aux_lemma =>
                          rw [if_neg c32] at H
                          have c32b0 : (((rd_T28 t256 x21_1).f0) == 1) = false := beq_eq_false_iff_ne.mpr c32
                          have c32b1 : (((rd_T28 t256 x21_1).f0) != 1) = true := bne_iff_ne.mpr c32
                          have HC41 := Aside0.mk H
                          clear H
                          have hcz42_0 : wc.cell? ⟨gb263, 0, none⟩ = some (.int .i64 ((rd_T28 t256 x21_1).f0)) := (blk_cell BK263.out 0).trans rfl
                          have hcz42_1 : wc.cell? ⟨gb263, 1, none⟩ = some (.int .i64 ((rd_T28 t256 x21_1).f1)) := (blk_cell BK263.out 1).trans rfl
                          have hcz42_2 : wc.cell? ⟨gb263, 2, none⟩ = some (.int .i64 ((rd_T28 t256 x21_1).f2)) := (blk_cell BK263.out 2).trans rfl
                          have hfz42_0 := blk_frozen BK263.out 0
                          have hfz42_1 := blk_frozen BK263.out 1
                          have hfz42_2 := blk_frozen BK263.out 2
                          go_upto_region 16 with (fail)
                          go_cut [79] (fun v79 wc => ∃ (kq : Nat) (x79_40 : Bool), v79 = .bool x79_40 ∧ Aside0 (laws_FnScriptWhole.j2 kq x3_1 x4_1 t256 (t256.length : Int) x21_1 x79_40 ((rd_T28 t256 x21_1).f0) ((rd_T28 t256 x21_1).f1) ((rd_T28 t256 x21_1).f2) = some r) ∧ Aside0 (kq ≤ kj14) ∧ Aside0 (Kd.R Kd.bool 4 wc w.heap.size (fun _ => True) v254 x3_1) ∧ Aside0 (Kd.R k35 35 wc w.heap.size (fun _ => True) u4 x4_1) ∧ Aside0 (Kd.R k28 28 wc w.heap.size (fun k_ => k_ ≠ gb263) (.slice (some ad262) t256.length co8) t256) ∧ Aside0 (wc.heap[gb263]? = some (.cells #[.int .i64 ((rd_T28 t256 x21_1).f0), .int .i64 ((rd_T28 t256 x21_1).f1), .int .i64 ((rd_T28 t256 x21_1).f2)] 28 (0, 0))) ∧ Aside0 (Below w.heap.size w wc))
                          case first =>
                            as_aux_lemma =>
                            have H := HC41.out
                            clear HC41
                            by_cases c43 : ((rd_T28 t256 x21_1).f0) = 2
                            · as_aux_lemma =>
                              rw [if_pos c43] at H
                              have c43b0 : (((rd_T28 t256 x21_1).f0) == 2) = true := beq_iff_eq.mpr c43
                              have c43b1 : (((rd_T28 t256 x21_1).f0) != 2) = false := bne_eq_false_iff_eq.mpr c43
                              clear c43
                              (first | rw [c43b0] | (simp only [i64_w, i32_w]; rw [c43b0]) | skip)
                              have H' := Aside0.mk H
                              clear H
                              have hcz44_0 : wc.cell? ⟨gb263, 0, none⟩ = some (.int .i64 ((rd_T28 t256 x21_1).f0)) := (blk_cell BK263.out 0).trans rfl
                              have hcz44_1 : wc.cell? ⟨gb263, 1, none⟩ = some (.int .i64 ((rd_T28 t256 x21_1).f1)) := (blk_cell BK263.out 1).trans rfl
                              have hcz44_2 : wc.cell? ⟨gb263, 2, none⟩ = some (.int .i64 ((rd_T28 t256 x21_1).f2)) := (blk_cell BK263.out 2).trans rfl
                              have hfz44_0 := blk_frozen BK263.out 0
                              have hfz44_1 := blk_frozen BK263.out 1
                              have hfz44_2 := blk_frozen BK263.out 2
                              obtain ⟨Ao45, co45, eo45⟩ := Kd.R_slice HO_4.out
                              subst eo45
                              go_wp2
                              go_meet
                              case rel => exact ⟨_, (decide ((x4_1.length : Int) > 0)), (by first | rfl | (simp; done) | (simp [*]; done)), H', ⟨by have := HK1.out; have := HJ14.out; first | omega | exact Nat.le_refl _⟩, ⟨by (with_reducible repeat (first | apply Kd.R_alloc | apply Kd.R_drewN | apply Kd.R_drew)); exact HO_3.out⟩, ⟨by (with_reducible repeat (first | apply Kd.R_alloc | apply Kd.R_drewN | apply Kd.R_drew)); exact HO_4.out⟩, ⟨by (with_reducible repeat (first | apply Kd.R_alloc | apply Kd.R_drewN | apply Kd.R_drew)); exact HO_19.out⟩, ⟨by (with_reducible repeat (first | refine blk_drewN ?_ _ | refine blk_drew ?_ | refine blk_alloc ?_ _)); exact BK263.out⟩, ⟨by repeat (first | (with_reducible first | exact HB.out | apply below_alloc | apply pw_below_drewN | apply below_drew1 | refine below_set ?_ GE263.out) | exact HB.out)⟩⟩
                            · as_aux_lemma =>
                              rw [if_neg c43] at H
                              have c43b0 : (((rd_T28 t256 x21_1).f0) == 2) = false := beq_eq_false_iff_ne.mpr c43
                              have c43b1 : (((rd_T28 t256 x21_1).f0) != 2) = true := bne_iff_ne.mpr c43
                              (first | rw [c43b0] | (simp only [i64_w, i32_w]; rw [c43b0]) | skip)
                              have H' := Aside0.mk H
                              clear H
                              have hcz46_0 : wc.cell? ⟨gb263, 0, none⟩ = some (.int .i64 ((rd_T28 t256 x21_1).f0)) := (blk_cell BK263.out 0).trans rfl
                              have hcz46_1 : wc.cell? ⟨gb263, 1, none⟩ = some (.int .i64 ((rd_T28 t256 x21_1).f1)) := (blk_cell BK263.out 1).trans rfl
                              have hcz46_2 : wc.cell? ⟨gb263, 2, none⟩ = some (.int .i64 ((rd_T28 t256 x21_1).f2)) := (blk_cell BK263.out 2).trans rfl
                              have hfz46_0 := blk_frozen BK263.out 0
                              have hfz46_1 := blk_frozen BK263.out 1
                              have hfz46_2 := blk_frozen BK263.out 2
                              go_wp2
                              go_meet
                              case rel => exact ⟨_, (false), (by first | rfl | (simp; done) | (simp [*]; done)), H', ⟨by have := HK1.out; have := HJ14.out; first | omega | exact Nat.le_refl _⟩, ⟨by (with_reducible repeat (first | apply Kd.R_alloc | apply Kd.R_drewN | apply Kd.R_drew)); exact HO_3.out⟩, ⟨by (with_reducible repeat (first | apply Kd.R_alloc | apply Kd.R_drewN | apply Kd.R_drew)); exact HO_4.out⟩, ⟨by (with_reducible repeat (first | apply Kd.R_alloc | apply Kd.R_drewN | apply Kd.R_drew)); exact HO_19.out⟩, ⟨by (with_reducible repeat (first | refine blk_drewN ?_ _ | refine blk_drew ?_ | refine blk_alloc ?_ _)); exact BK263.out⟩, ⟨by repeat (first | (with_reducible first | exact HB.out | apply below_alloc | apply pw_below_drewN | apply below_drew1 | refine below_set ?_ GE263.out) | exact HB.out)⟩⟩
                          case rest =>
                            as_aux_lemma =>
                            clear HC41
                            try clear c1
                            try clear c2
                            try clear c2b0
                            try clear c2b1
                            try clear p2
                            try clear q2
                            try clear hx2
                            try clear c3
                            try clear c3b0
                            try clear c3b1
                            try clear c4
                            try clear c6
                            try clear p6
                            try clear c7
                            try clear c8
                            try clear c9
                            try clear c9b0
                            try clear c10
                            try clear c10b0
                            try clear c11
                            try clear c11b0
                            try clear c16
                            try clear c16b0
                            try clear c16b1
                            try clear c21
                            try clear p26
                            try clear q26
                            try clear hx26
                            try clear c32
                            try clear c32b0
                            try clear c32b1
                            try clear c43
                            try clear c43b0
                            try clear c43b1
                            try clear hcz14_0
                            try clear hcz14_1
                            try clear hcz14_2
                            try clear hcz18_0
                            try clear hcz18_1
                            try clear hcz18_2
                            try clear hcz20_0
                            try clear hcz20_1
                            try clear hcz20_2
                            try clear hcz25_0
                            try clear hcz25_1
                            try clear hcz25_2
                            try clear hcz28_0
                            try clear hcz28_1
                            try clear hcz28_2
                            try clear hcz35_0
                            try clear hcz35_1
                            try clear hcz35_2
                            try clear hcz38_0
                            try clear hcz38_1
                            try clear hcz38_2
                            try clear hcz42_0
                            try clear hcz42_1
                            try clear hcz42_2
                            try clear hcz44_0
                            try clear hcz44_1
                            try clear hcz44_2
                            try clear hcz46_0
                            try clear hcz46_1
                            try clear hcz46_2
                            try clear hfz14_0
                            try clear hfz14_1
                            try clear hfz14_2
                            try clear hfz18_0
                            try clear hfz18_1
                            try clear hfz18_2
                            try clear hfz20_0
                            try clear hfz20_1
                            try clear hfz20_2
                            try clear hfz25_0
                            try clear hfz25_1
                            try clear hfz25_2
                            try clear hfz28_0
                            try clear hfz28_1
                            try clear hfz28_2
                            try clear hfz35_0
                            try clear hfz35_1
                            try clear hfz35_2
                            try clear hfz38_0
                            try clear hfz38_1
                            try clear hfz38_2
                            try clear hfz42_0
                            try clear hfz42_1
                            try clear hfz42_2
                            try clear hfz44_0
                            try clear hfz44_1
                            try clear hfz44_2
                            try clear hfz46_0
                            try clear hfz46_1
                            try clear hfz46_2
                            try clear hx262_0
                            try clear hx262_1
                            try clear hx262_2
                            try clear p2
                            try clear p262
                            try clear q2
                            try clear q262
                            obtain ⟨kq, x79_40, rfl, HA, HJ40, HO_3, HO_4, HO_19, BK263, HB⟩ := hcut
                            cases kq with
                            | zero => exact absurd HA.out (by simp [laws_FnScriptWhole.j2])
                            | succ kj40 =>
                              have H := HA.out
                              clear HA
                              simp only [laws_FnScriptWhole.j2] at H
                              by_cases c47 : x79_40 = true
                              · as_aux_lemma =>
                                subst c47
                                have H1 : ((spec_Last.f kj40 x3_1 ((rd_T28 t256 x21_1).f2)).bind fun bt277 => ((spec_Put.f kj40 x3_1 bt277.1 bt277.2 false).bind fun t279 => ((impl_RemoveLast.f kj40 x4_1 (IntKind.u64.wrap (((rd_T28 t256 x21_1).f2)))).bind fun bt281 => (if (!(bt281.2.2.1 == (IntKind.u64.wrap (bt277.1))) || (!(bt281.2.2.2 == (IntKind.u64.wrap (wrap64 (bt277.1 + bt277.2)))))) = true then (some false) else (laws_FnScriptWhole.j3 kj40 t279 bt281.1 bt281.2.1 t256 (t256.length : Int) x21_1 ((rd_T28 t256 x21_1).f0) ((rd_T28 t256 x21_1).f1) ((rd_T28 t256 x21_1).f2)))))) = some r := by rw [if_pos rfl] at H; exact H
                                clear H
                                have H := H1
                                clear H1
                                replace H := Option.bind_eq_some_iff.mp H
                                obtain ⟨⟨t277, t278⟩, A480, H⟩ := H
                                replace H : ((spec_Put.f kj40 x3_1 t277 t278 false).bind fun t279 => ((impl_RemoveLast.f kj40 x4_1 (IntKind.u64.wrap (((rd_T28 t256 x21_1).f2)))).bind fun bt281 => (if (!(bt281.2.2.1 == (IntKind.u64.wrap (t277))) || (!(bt281.2.2.2 == (IntKind.u64.wrap (wrap64 (t277 + t278)))))) = true then (some false) else (laws_FnScriptWhole.j3 kj40 t279 bt281.1 bt281.2.1 t256 (t256.length : Int) x21_1 ((rd_T28 t256 x21_1).f0) ((rd_T28 t256 x21_1).f1) ((rd_T28 t256 x21_1).f2))))) = some r := H
                                have A48 := Aside0.mk A480
                                clear A480
                                replace H := Option.bind_eq_some_iff.mp H
                                obtain ⟨t279, A490, H⟩ := H
                                replace H : ((impl_RemoveLast.f kj40 x4_1 (IntKind.u64.wrap (((rd_T28 t256 x21_1).f2)))).bind fun bt281 => (if (!(bt281.2.2.1 == (IntKind.u64.wrap (t277))) || (!(bt281.2.2.2 == (IntKind.u64.wrap (wrap64 (t277 + t278)))))) = true then (some false) else (laws_FnScriptWhole.j3 kj40 t279 bt281.1 bt281.2.1 t256 (t256.length : Int) x21_1 ((rd_T28 t256 x21_1).f0) ((rd_T28 t256 x21_1).f1) ((rd_T28 t256 x21_1).f2)))) = some r := H
                                have A49 := Aside0.mk A490
                                clear A490
                                replace H := Option.bind_eq_some_iff.mp H
                                obtain ⟨⟨t281, t284, t285, t286⟩, A500, H⟩ := H
                                replace H : (if (!(t285 == (IntKind.u64.wrap (t277))) || (!(t286 == (IntKind.u64.wrap (wrap64 (t277 + t278)))))) = true then (some false) else (laws_FnScriptWhole.j3 kj40 t279 t281 t284 t256 (t256.length : Int) x21_1 ((rd_T28 t256 x21_1).f0) ((rd_T28 t256 x21_1).f1) ((rd_T28 t256 x21_1).f2))) = some r := H
                                have A50 := Aside0.mk A500
                                clear A500
                                by_cases c51 : (!(t285 == (IntKind.u64.wrap (t277))) || (!(t286 == (IntKind.u64.wrap (wrap64 (t277 + t278)))))) = true
                                · as_aux_lemma =>
                                  rw [if_pos c51] at H
                                  have c51b0 : (!(t285 == (IntKind.u64.wrap (t277))) || (!(t286 == (IntKind.u64.wrap (wrap64 (t277 + t278)))))) = true := c51
                                  clear c51
                                  obtain rfl := Option.some.inj H
                                  have hcz52_0 : wc.cell? ⟨gb263, 0, none⟩ = some (.int .i64 ((rd_T28 t256 x21_1).f0)) := (blk_cell BK263.out 0).trans rfl
                                  have hcz52_1 : wc.cell? ⟨gb263, 1, none⟩ = some (.int .i64 ((rd_T28 t256 x21_1).f1)) := (blk_cell BK263.out 1).trans rfl
                                  have hcz52_2 : wc.cell? ⟨gb263, 2, none⟩ = some (.int .i64 ((rd_T28 t256 x21_1).f2)) := (blk_cell BK263.out 2).trans rfl
                                  have hfz52_0 := blk_frozen BK263.out 0
                                  have hfz52_1 := blk_frozen BK263.out 1
                                  have hfz52_2 := blk_frozen BK263.out 2
                                  obtain ⟨Ao53, co53, eo53⟩ := Kd.R_slice HO_3.out
                                  subst eo53
                                  go_wp2_with (first | ((with_reducible refine gate_callee (f := 10) rfl ?_); refine goesL_ (some 92) rfl rfl Try.func10 (by kernel_rfl) rfl #[.slice Ao53 x3_1.length co53, .int .i64 ((rd_T28 t256 x21_1).f2)] rfl (by (try simp only [List.map_toArray, List.map_cons, List.map_nil]); first | done | rfl | (simp only [List.length_drop, List.length_take]; rfl)) ?_; (with_reducible refine (spec_Last.calls kj40 _ _ x3_1 ((rd_T28 t256 x21_1).f2) t277 t278 _ ?side1 ?side2 A48.out).mono ?_); (case side1 => repeat (first | exact (Kd.R_reads' HO_3.out).2.2 | (with_reducible refine Kd.C_alloc ?_ _) | (with_reducible refine Kd.C_drewN ?_ _) | (with_reducible refine Kd.C_drew ?_))); (case side2 => exact (Kd.R_reads' HO_3.out).2.1); rintro e w' ⟨rfl, ⟨nd, rfl⟩⟩; refine ⟨_, rfl, ?_⟩; (try (rw [drewN_self wc]; generalize hq_ : World.drewN wc _ = wc; have n0_ : Aside0 (Kd.R k28 28 wc w.heap.size (fun k_ => k_ ≠ gb263) (.slice (some ad262) t256.length co8) t256) := ⟨by rw [← hq_]; exact (by (with_reducible repeat (first | apply Kd.R_alloc | apply Kd.R_drewN | apply Kd.R_drew)); exact HO_19.out)⟩; have n1_ : Aside0 (Kd.R Kd.bool 4 wc w.heap.size (fun _ => True) (.slice Ao53 x3_1.length co53) x3_1) := ⟨by rw [← hq_]; exact (by (with_reducible repeat (first | apply Kd.R_alloc | apply Kd.R_drewN | apply Kd.R_drew)); exact HO_3.out)⟩; have n2_ : Aside0 (Kd.R k35 35 wc w.heap.size (fun _ => True) u4 x4_1) := ⟨by rw [← hq_]; exact (by (with_reducible repeat (first | apply Kd.R_alloc | apply Kd.R_drewN | apply Kd.R_drew)); exact HO_4.out)⟩; have n3_ : Aside0 (wc.heap[gb263]? = some (.cells #[.int .i64 ((rd_T28 t256 x21_1).f0), .int .i64 ((rd_T28 t256 x21_1).f1), .int .i64 ((rd_T28 t256 x21_1).f2)] 28 (0, 0))) := ⟨by rw [← hq_]; exact (by (with_reducible repeat (first | refine blk_drewN ?_ _ | refine blk_drew ?_ | refine blk_alloc ?_ _)); exact BK263.out)⟩; have n4_ : Aside0 (Below w.heap.size w wc) := ⟨by rw [← hq_]; exact (by repeat (first | (with_reducible first | exact HB.out | apply below_alloc | apply pw_below_drewN | apply below_drew1 | refine below_set ?_ GE263.out) | exact HB.out))⟩; clear HO_19 HO_3 HO_4 BK263 HB hq_; have HO_19 := n0_; have HO_3 := n1_; have HO_4 := n2_; have BK263 := n3_; have HB := n4_; clear n0_ n1_ n2_ n3_ n4_))) | ((with_reducible refine gate_callee (f := 6) rfl ?_); refine goesL_ (some 98) rfl rfl Try.func6 (by kernel_rfl) rfl #[.slice Ao53 x3_1.length co53, .int .i64 t277, .int .i64 t278, .bool false] rfl (by (try simp only [List.map_toArray, List.map_cons, List.map_nil]); first | done | rfl | (simp only [List.length_drop, List.length_take]; rfl)) ?_; (with_reducible refine (spec_Put.calls kj40 (fun k_ => some k_ = (.slice Ao53 x3_1.length co53 : Value).ownBlock) (.slice Ao53 x3_1.length co53) x3_1 t277 t278 false t279 w _ ?side1 ?side2 A49.out).mono ?_); (case side1 => repeat (first | (with_reducible first | exact HB.out | apply below_alloc | apply pw_below_drewN | apply below_drew1 | refine below_set ?_ GE263.out) | exact HB.out)); (case side2 => exact Kd.R_tight rfl HO_3.out); rintro e w54 ⟨rfl, hy0, hb, hkp⟩; refine ⟨_, rfl, ?_⟩; have n0_ := Aside0.mk (Kd.R_reok rfl hy0 (fun k_ e_ => HO_3.out.1 k_ e_)); have n1_ := Aside0.mk (Kd.R_mono (ok' := fun k_ => True) (Kd.R_keptB ((Kd.R_apart' HO_4.out (Kd.R_typed HO_3.out) (by decide))) hkp (fun k_ hk_ hs_ => (hk_.2) hs_)) (fun k_ hk_ => trivial)); have n2_ := Aside0.mk (Kd.R_mono (ok' := fun k_ => k_ ≠ gb263) (Kd.R_keptB ((Kd.R_apart' HO_19.out (Kd.R_typed HO_3.out) (by decide))) hkp (fun k_ hk_ hs_ => (hk_.2) hs_)) (fun k_ hk_ => hk_.1.1)); have n3_ := Aside0.mk (blk_kept (by (with_reducible repeat (first | refine blk_drewN ?_ _ | refine blk_drew ?_ | refine blk_alloc ?_ _)); exact BK263.out) hkp (fun hs_ => (fun e_ => (Kd.R_ne HO_3.out BK263.out (by decide)) e_) hs_)); have n4_ := Aside0.mk (hb); clear HO_3; clear HO_4; clear HO_19; clear BK263; clear HB; have HO_3 := n0_; have HO_4 := n1_; have HO_19 := n2_; have BK263 := n3_; have HB := n4_; clear n0_ n1_ n2_ n3_ n4_; (try clear hb); (try clear hkp); (try clear hy0)) | ((with_reducible refine gate_dst (N := 10) rfl ?_); (try (refine gate_guard (by rfl) ?_; dsimp only)); refine box_event ?hg (N := 10) ?hd (cs := #[.int .u64 0, .int .u64 0]) (t := 35) ?hr ?_; (case hd => rfl); (case hg => rfl); (case hr => first | (go_simp; done) | (go_simp; rfl)); intro gb280 hg w55 hbox hb; have n0_ := Aside0.mk (Kd.R_below (by (with_reducible repeat (first | apply Kd.R_alloc | apply Kd.R_drewN | apply Kd.R_drew)); exact HO_3.out) hb); have n1_ := Aside0.mk (Kd.R_below (Kd.R_elderB (by (with_reducible repeat (first | apply Kd.R_alloc | apply Kd.R_drewN | apply Kd.R_drew)); exact HO_4.out) gb280 (Nat.le_of_eq hg.symm)) hb); have n2_ := Aside0.mk (Kd.R_below (by (with_reducible repeat (first | apply Kd.R_alloc | apply Kd.R_drewN | apply Kd.R_drew)); exact HO_19.out) hb); have n3_ := Aside0.mk (blk_below (g := gb263) (o := .cells #[.int .i64 ((rd_T28 t256 x21_1).f0), .int .i64 ((rd_T28 t256 x21_1).f1), .int .i64 ((rd_T28 t256 x21_1).f2)] 28 (0, 0)) (by (with_reducible repeat (first | refine blk_drewN ?_ _ | refine blk_drew ?_ | refine blk_alloc ?_ _)); exact BK263.out) hb); have n4_ := Aside0.mk (below_step (by repeat (first | (with_reducible first | exact HB.out | apply below_alloc | apply pw_below_drewN | apply below_drew1 | refine below_set ?_ GE263.out) | exact HB.out)) hb); have n5_ := Aside0.mk (hbox); have n6_ := Aside0.mk ((by rw [hg]; exact (below_size (by repeat (first | (with_reducible first | exact HB.out | apply below_alloc | apply pw_below_drewN | apply below_drew1 | refine below_set ?_ GE263.out) | exact HB.out))) : w.heap.size ≤ gb280)); have n7_ := Aside0.mk ((by rw [hg]; exact (below_size (by repeat (first | (with_reducible first | exact HB.out | apply below_alloc | apply pw_below_drewN | apply below_drew1 | refine below_set ?_ GE263.out) | exact HB.out))) : w.heap.size ≤ gb280)); have n8_ := Aside0.mk ((by rw [hg]; exact Nat.ne_of_lt (blk_lt (g := gb263) (o := .cells #[.int .i64 ((rd_T28 t256 x21_1).f0), .int .i64 ((rd_T28 t256 x21_1).f1), .int .i64 ((rd_T28 t256 x21_1).f2)] 28 (0, 0)) (by (with_reducible repeat (first | refine blk_drewN ?_ _ | refine blk_drew ?_ | refine blk_alloc ?_ _)); exact BK263.out)) : gb263 ≠ gb280)); have n9_ := Aside0.mk ((by rw [hg]; exact Nat.ne_of_gt (blk_lt (g := gb263) (o := .cells #[.int .i64 ((rd_T28 t256 x21_1).f0), .int .i64 ((rd_T28 t256 x21_1).f1), .int .i64 ((rd_T28 t256 x21_1).f2)] 28 (0, 0)) (by (with_reducible repeat (first | refine blk_drewN ?_ _ | refine blk_drew ?_ | refine blk_alloc ?_ _)); exact BK263.out)) : gb280 ≠ gb263)); clear HO_3; clear HO_4; clear HO_19; clear BK263; clear HB; have HO_3 := n0_; have HO_4 := n1_; have HO_19 := n2_; have BK263 := n3_; have HB := n4_; have BK280 := n5_; have GW280 := n6_; have GE280 := n7_; have NB263_280 := n8_; have NB280_263 := n9_; clear n0_ n1_ n2_ n3_ n4_ n5_ n6_ n7_ n8_ n9_; clear hb hbox hg; have hnb56 := NB263_280.out; have hnc56 := NB280_263.out; have hcz57_0 : w55.cell? ⟨gb263, 0, none⟩ = some (.int .i64 ((rd_T28 t256 x21_1).f0)) := (blk_cell BK263.out 0).trans rfl; have hcz57_1 : w55.cell? ⟨gb263, 1, none⟩ = some (.int .i64 ((rd_T28 t256 x21_1).f1)) := (blk_cell BK263.out 1).trans rfl; have hcz57_2 : w55.cell? ⟨gb263, 2, none⟩ = some (.int .i64 ((rd_T28 t256 x21_1).f2)) := (blk_cell BK263.out 2).trans rfl; have hfz57_0 := blk_frozen BK263.out 0; have hfz57_1 := blk_frozen BK263.out 1; have hfz57_2 := blk_frozen BK263.out 2; obtain ⟨Ao58, co58, eo58⟩ := Kd.R_slice HO_4.out; subst eo58) | ((with_reducible refine gate_callee (f := 11) rfl ?_); refine goesL_ (some 104) rfl rfl Try.func11 (by kernel_rfl) rfl #[.slice Ao58 x4_1.length co58, .int .u64 (IntKind.u64.wrap (((rd_T28 t256 x21_1).f2)))] rfl (by (try simp only [List.map_toArray, List.map_cons, List.map_nil]); first | done | rfl | (simp only [List.length_drop, List.length_take]; rfl)) ?_; (with_reducible refine (impl_RemoveLast.calls kj40 _ _ x4_1 (IntKind.u64.wrap (((rd_T28 t256 x21_1).f2))) t281 t284 t285 t286 _ ?side1 ?side2 A50.out).mono ?_); (case side1 => repeat (first | exact (Kd.R_reads' HO_4.out).2.2 | (with_reducible refine Kd.C_alloc ?_ _) | (with_reducible refine Kd.C_drewN ?_ _) | (with_reducible refine Kd.C_drew ?_))); (case side2 => exact (Kd.R_reads' HO_4.out).2.1); rintro e w59 ⟨v282, rfl, ho0, hb⟩; refine ⟨_, rfl, ?_⟩; have n0_ := Aside0.mk (Kd.R_below (by (with_reducible repeat (first | apply Kd.R_alloc | apply Kd.R_drewN | apply Kd.R_drew)); exact HO_3.out) hb); have n1_ := Aside0.mk (Kd.R_elder' (by (with_reducible repeat (first | apply Kd.R_alloc | apply Kd.R_drewN | apply Kd.R_drew)); exact HO_4.out) (Kd.R_base ho0) hb); have n2_ := Aside0.mk (Kd.R_below (by (with_reducible repeat (first | apply Kd.R_alloc | apply Kd.R_drewN | apply Kd.R_drew)); exact HO_19.out) hb); have n3_ := Aside0.mk (Kd.R_lower (Kd.R_newB (Kd.R_new' ho0 (Kd.R_lt (by (with_reducible repeat (first | apply Kd.R_alloc | apply Kd.R_drewN | apply Kd.R_drew)); exact HO_4.out))) (g := gb280) (o := .cells #[.int .u64 0, .int .u64 0] 35 (0, 0)) (by (with_reducible repeat (first | refine blk_drewN ?_ _ | refine blk_drew ?_ | refine blk_alloc ?_ _)); exact BK280.out)) (below_size (by repeat (first | (with_reducible first | exact HB.out | apply below_alloc | apply pw_below_drewN | apply below_drew1 | refine below_set ?_ GE263.out | refine below_set ?_ GE280.out) | exact HB.out)))); have n4_ := Aside0.mk (blk_below (g := gb263) (o := .cells #[.int .i64 ((rd_T28 t256 x21_1).f0), .int .i64 ((rd_T28 t256 x21_1).f1), .int .i64 ((rd_T28 t256 x21_1).f2)] 28 (0, 0)) (by (with_reducible repeat (first | refine blk_drewN ?_ _ | refine blk_drew ?_ | refine blk_alloc ?_ _)); exact BK263.out) hb); have n5_ := Aside0.mk (blk_below (g := gb280) (o := .cells #[.int .u64 0, .int .u64 0] 35 (0, 0)) (by (with_reducible repeat (first | refine blk_drewN ?_ _ | refine blk_drew ?_ | refine blk_alloc ?_ _)); exact BK280.out) hb); have n6_ := Aside0.mk (below_step (by repeat (first | (with_reducible first | exact HB.out | apply below_alloc | apply pw_below_drewN | apply below_drew1 | refine below_set ?_ GE263.out | refine below_set ?_ GE280.out) | exact HB.out)) hb); clear HO_3; clear HO_4; clear HO_19; clear BK263; clear BK280; clear HB; have HO_3 := n0_; have HO_4 := n1_; have HO_19 := n2_; have HO283 := n3_; have BK263 := n4_; have BK280 := n5_; have HB := n6_; clear n0_ n1_ n2_ n3_ n4_ n5_ n6_; (try clear hb); (try clear hb2); (try clear hk); (try clear hi); (try clear ho0); have hcz60_0 : w59.cell? ⟨gb280, 0, none⟩ = some (.int .u64 0) := (blk_cell BK280.out 0).trans rfl; have hcz60_1 : w59.cell? ⟨gb280, 1, none⟩ = some (.int .u64 0) := (blk_cell BK280.out 1).trans rfl; have hfz60_0 := blk_frozen BK280.out 0; have hfz60_1 := blk_frozen BK280.out 1))
                                  go_ret
                                  exact ⟨by first | rfl | (simp [errW_none, errW_some] <;> rfl) | (simp [*, errW_none, errW_some] <;> rfl), by repeat (first | (with_reducible first | exact HB.out | apply below_alloc | apply pw_below_drewN | apply below_drew1 | refine below_set ?_ GE263.out | refine below_set ?_ GE280.out) | exact HB.out)⟩
                                · as_aux_lemma =>
                                  rw [if_neg c51] at H
                                  have c51b0 : (!(t285 == (IntKind.u64.wrap (t277))) || (!(t286 == (IntKind.u64.wrap (wrap64 (t277 + t278)))))) = false := by simpa using c51
                                  clear c51
                                  have H' := Aside0.mk H
                                  clear H
                                  have hcz61_0 : wc.cell? ⟨gb263, 0, none⟩ = some (.int .i64 ((rd_T28 t256 x21_1).f0)) := (blk_cell BK263.out 0).trans rfl
                                  have hcz61_1 : wc.cell? ⟨gb263, 1, none⟩ = some (.int .i64 ((rd_T28 t256 x21_1).f1)) := (blk_cell BK263.out 1).trans rfl
                                  have hcz61_2 : wc.cell? ⟨gb263, 2, none⟩ = some (.int .i64 ((rd_T28 t256 x21_1).f2)) := (blk_cell BK263.out 2).trans rfl
                                  have hfz61_0 := blk_frozen BK263.out 0
                                  have hfz61_1 := blk_frozen BK263.out 1
                                  have hfz61_2 := blk_frozen BK263.out 2
                                  obtain ⟨Ao62, co62, eo62⟩ := Kd.R_slice HO_3.out
                                  subst eo62
                                  go_wp2_with (first | ((with_reducible refine gate_callee (f := 10) rfl ?_); refine goesL_ (some 92) rfl rfl Try.func10 (by kernel_rfl) rfl #[.slice Ao62 x3_1.length co62, .int .i64 ((rd_T28 t256 x21_1).f2)] rfl (by (try simp only [List.map_toArray, List.map_cons, List.map_nil]); first | done | rfl | (simp only [List.length_drop, List.length_take]; rfl)) ?_; (with_reducible refine (spec_Last.calls kj40 _ _ x3_1 ((rd_T28 t256 x21_1).f2) t277 t278 _ ?side1 ?side2 A48.out).mono ?_); (case side1 => repeat (first | exact (Kd.R_reads' HO_3.out).2.2 | (with_reducible refine Kd.C_alloc ?_ _) | (with_reducible refine Kd.C_drewN ?_ _) | (with_reducible refine Kd.C_drew ?_))); (case side2 => exact (Kd.R_reads' HO_3.out).2.1); rintro e w' ⟨rfl, ⟨nd, rfl⟩⟩; refine ⟨_, rfl, ?_⟩; (try (rw [drewN_self wc]; generalize hq_ : World.drewN wc _ = wc; have n0_ : Aside0 (Kd.R k28 28 wc w.heap.size (fun k_ => k_ ≠ gb263) (.slice (some ad262) t256.length co8) t256) := ⟨by rw [← hq_]; exact (by (with_reducible repeat (first | apply Kd.R_alloc | apply Kd.R_drewN | apply Kd.R_drew)); exact HO_19.out)⟩; have n1_ : Aside0 (Kd.R Kd.bool 4 wc w.heap.size (fun _ => True) (.slice Ao62 x3_1.length co62) x3_1) := ⟨by rw [← hq_]; exact (by (with_reducible repeat (first | apply Kd.R_alloc | apply Kd.R_drewN | apply Kd.R_drew)); exact HO_3.out)⟩; have n2_ : Aside0 (Kd.R k35 35 wc w.heap.size (fun _ => True) u4 x4_1) := ⟨by rw [← hq_]; exact (by (with_reducible repeat (first | apply Kd.R_alloc | apply Kd.R_drewN | apply Kd.R_drew)); exact HO_4.out)⟩; have n3_ : Aside0 (wc.heap[gb263]? = some (.cells #[.int .i64 ((rd_T28 t256 x21_1).f0), .int .i64 ((rd_T28 t256 x21_1).f1), .int .i64 ((rd_T28 t256 x21_1).f2)] 28 (0, 0))) := ⟨by rw [← hq_]; exact (by (with_reducible repeat (first | refine blk_drewN ?_ _ | refine blk_drew ?_ | refine blk_alloc ?_ _)); exact BK263.out)⟩; have n4_ : Aside0 (Below w.heap.size w wc) := ⟨by rw [← hq_]; exact (by repeat (first | (with_reducible first | exact HB.out | apply below_alloc | apply pw_below_drewN | apply below_drew1 | refine below_set ?_ GE263.out) | exact HB.out))⟩; clear HO_19 HO_3 HO_4 BK263 HB hq_; have HO_19 := n0_; have HO_3 := n1_; have HO_4 := n2_; have BK263 := n3_; have HB := n4_; clear n0_ n1_ n2_ n3_ n4_))) | ((with_reducible refine gate_callee (f := 6) rfl ?_); refine goesL_ (some 98) rfl rfl Try.func6 (by kernel_rfl) rfl #[.slice Ao62 x3_1.length co62, .int .i64 t277, .int .i64 t278, .bool false] rfl (by (try simp only [List.map_toArray, List.map_cons, List.map_nil]); first | done | rfl | (simp only [List.length_drop, List.length_take]; rfl)) ?_; (with_reducible refine (spec_Put.calls kj40 (fun k_ => some k_ = (.slice Ao62 x3_1.length co62 : Value).ownBlock) (.slice Ao62 x3_1.length co62) x3_1 t277 t278 false t279 w _ ?side1 ?side2 A49.out).mono ?_); (case side1 => repeat (first | (with_reducible first | exact HB.out | apply below_alloc | apply pw_below_drewN | apply below_drew1 | refine below_set ?_ GE263.out) | exact HB.out)); (case side2 => exact Kd.R_tight rfl HO_3.out); rintro e w63 ⟨rfl, hy0, hb, hkp⟩; refine ⟨_, rfl, ?_⟩; have n0_ := Aside0.mk (Kd.R_reok rfl hy0 (fun k_ e_ => HO_3.out.1 k_ e_)); have n1_ := Aside0.mk (Kd.R_mono (ok' := fun k_ => True) (Kd.R_keptB ((Kd.R_apart' HO_4.out (Kd.R_typed HO_3.out) (by decide))) hkp (fun k_ hk_ hs_ => (hk_.2) hs_)) (fun k_ hk_ => trivial)); have n2_ := Aside0.mk (Kd.R_mono (ok' := fun k_ => k_ ≠ gb263) (Kd.R_keptB ((Kd.R_apart' HO_19.out (Kd.R_typed HO_3.out) (by decide))) hkp (fun k_ hk_ hs_ => (hk_.2) hs_)) (fun k_ hk_ => hk_.1.1)); have n3_ := Aside0.mk (blk_kept (by (with_reducible repeat (first | refine blk_drewN ?_ _ | refine blk_drew ?_ | refine blk_alloc ?_ _)); exact BK263.out) hkp (fun hs_ => (fun e_ => (Kd.R_ne HO_3.out BK263.out (by decide)) e_) hs_)); have n4_ := Aside0.mk (hb); clear HO_3; clear HO_4; clear HO_19; clear BK263; clear HB; have HO_3 := n0_; have HO_4 := n1_; have HO_19 := n2_; have BK263 := n3_; have HB := n4_; clear n0_ n1_ n2_ n3_ n4_; (try clear hb); (try clear hkp); (try clear hy0)) | ((with_reducible refine gate_dst (N := 10) rfl ?_); (try (refine gate_guard (by rfl) ?_; dsimp only)); refine box_event ?hg (N := 10) ?hd (cs := #[.int .u64 0, .int .u64 0]) (t := 35) ?hr ?_; (case hd => rfl); (case hg => rfl); (case hr => first | (go_simp; done) | (go_simp; rfl)); intro gb280 hg w64 hbox hb; have n0_ := Aside0.mk (Kd.R_below (by (with_reducible repeat (first | apply Kd.R_alloc | apply Kd.R_drewN | apply Kd.R_drew)); exact HO_3.out) hb); have n1_ := Aside0.mk (Kd.R_below (Kd.R_elderB (by (with_reducible repeat (first | apply Kd.R_alloc | apply Kd.R_drewN | apply Kd.R_drew)); exact HO_4.out) gb280 (Nat.le_of_eq hg.symm)) hb); have n2_ := Aside0.mk (Kd.R_below (by (with_reducible repeat (first | apply Kd.R_alloc | apply Kd.R_drewN | apply Kd.R_drew)); exact HO_19.out) hb); have n3_ := Aside0.mk (blk_below (g := gb263) (o := .cells #[.int .i64 ((rd_T28 t256 x21_1).f0), .int .i64 ((rd_T28 t256 x21_1).f1), .int .i64 ((rd_T28 t256 x21_1).f2)] 28 (0, 0)) (by (with_reducible repeat (first | refine blk_drewN ?_ _ | refine blk_drew ?_ | refine blk_alloc ?_ _)); exact BK263.out) hb); have n4_ := Aside0.mk (below_step (by repeat (first | (with_reducible first | exact HB.out | apply below_alloc | apply pw_below_drewN | apply below_drew1 | refine below_set ?_ GE263.out) | exact HB.out)) hb); have n5_ := Aside0.mk (hbox); have n6_ := Aside0.mk ((by rw [hg]; exact (below_size (by repeat (first | (with_reducible first | exact HB.out | apply below_alloc | apply pw_below_drewN | apply below_drew1 | refine below_set ?_ GE263.out) | exact HB.out))) : w.heap.size ≤ gb280)); have n7_ := Aside0.mk ((by rw [hg]; exact (below_size (by repeat (first | (with_reducible first | exact HB.out | apply below_alloc | apply pw_below_drewN | apply below_drew1 | refine below_set ?_ GE263.out) | exact HB.out))) : w.heap.size ≤ gb280)); have n8_ := Aside0.mk ((by rw [hg]; exact Nat.ne_of_lt (blk_lt (g := gb263) (o := .cells #[.int .i64 ((rd_T28 t256 x21_1).f0), .int .i64 ((rd_T28 t256 x21_1).f1), .int .i64 ((rd_T28 t256 x21_1).f2)] 28 (0, 0)) (by (with_reducible repeat (first | refine blk_drewN ?_ _ | refine blk_drew ?_ | refine blk_alloc ?_ _)); exact BK263.out)) : gb263 ≠ gb280)); have n9_ := Aside0.mk ((by rw [hg]; exact Nat.ne_of_gt (blk_lt (g := gb263) (o := .cells #[.int .i64 ((rd_T28 t256 x21_1).f0), .int .i64 ((rd_T28 t256 x21_1).f1), .int .i64 ((rd_T28 t256 x21_1).f2)] 28 (0, 0)) (by (with_reducible repeat (first | refine blk_drewN ?_ _ | refine blk_drew ?_ | refine blk_alloc ?_ _)); exact BK263.out)) : gb280 ≠ gb263)); clear HO_3; clear HO_4; clear HO_19; clear BK263; clear HB; have HO_3 := n0_; have HO_4 := n1_; have HO_19 := n2_; have BK263 := n3_; have HB := n4_; have BK280 := n5_; have GW280 := n6_; have GE280 := n7_; have NB263_280 := n8_; have NB280_263 := n9_; clear n0_ n1_ n2_ n3_ n4_ n5_ n6_ n7_ n8_ n9_; clear hb hbox hg; have hnb65 := NB263_280.out; have hnc65 := NB280_263.out; have hcz66_0 : w64.cell? ⟨gb263, 0, none⟩ = some (.int .i64 ((rd_T28 t256 x21_1).f0)) := (blk_cell BK263.out 0).trans rfl; have hcz66_1 : w64.cell? ⟨gb263, 1, none⟩ = some (.int .i64 ((rd_T28 t256 x21_1).f1)) := (blk_cell BK263.out 1).trans rfl; have hcz66_2 : w64.cell? ⟨gb263, 2, none⟩ = some (.int .i64 ((rd_T28 t256 x21_1).f2)) := (blk_cell BK263.out 2).trans rfl; have hfz66_0 := blk_frozen BK263.out 0; have hfz66_1 := blk_frozen BK263.out 1; have hfz66_2 := blk_frozen BK263.out 2; obtain ⟨Ao67, co67, eo67⟩ := Kd.R_slice HO_4.out; subst eo67) | ((with_reducible refine gate_callee (f := 11) rfl ?_); refine goesL_ (some 104) rfl rfl Try.func11 (by kernel_rfl) rfl #[.slice Ao67 x4_1.length co67, .int .u64 (IntKind.u64.wrap (((rd_T28 t256 x21_1).f2)))] rfl (by (try simp only [List.map_toArray, List.map_cons, List.map_nil]); first | done | rfl | (simp only [List.length_drop, List.length_take]; rfl)) ?_; (with_reducible refine (impl_RemoveLast.calls kj40 _ _ x4_1 (IntKind.u64.wrap (((rd_T28 t256 x21_1).f2))) t281 t284 t285 t286 _ ?side1 ?side2 A50.out).mono ?_); (case side1 => repeat (first | exact (Kd.R_reads' HO_4.out).2.2 | (with_reducible refine Kd.C_alloc ?_ _) | (with_reducible refine Kd.C_drewN ?_ _) | (with_reducible refine Kd.C_drew ?_))); (case side2 => exact (Kd.R_reads' HO_4.out).2.1); rintro e w68 ⟨v282, rfl, ho0, hb⟩; refine ⟨_, rfl, ?_⟩; have n0_ := Aside0.mk (Kd.R_below (by (with_reducible repeat (first | apply Kd.R_alloc | apply Kd.R_drewN | apply Kd.R_drew)); exact HO_3.out) hb); have n1_ := Aside0.mk (Kd.R_elder' (by (with_reducible repeat (first | apply Kd.R_alloc | apply Kd.R_drewN | apply Kd.R_drew)); exact HO_4.out) (Kd.R_base ho0) hb); have n2_ := Aside0.mk (Kd.R_below (by (with_reducible repeat (first | apply Kd.R_alloc | apply Kd.R_drewN | apply Kd.R_drew)); exact HO_19.out) hb); have n3_ := Aside0.mk (Kd.R_lower (Kd.R_newB (Kd.R_new' ho0 (Kd.R_lt (by (with_reducible repeat (first | apply Kd.R_alloc | apply Kd.R_drewN | apply Kd.R_drew)); exact HO_4.out))) (g := gb280) (o := .cells #[.int .u64 0, .int .u64 0] 35 (0, 0)) (by (with_reducible repeat (first | refine blk_drewN ?_ _ | refine blk_drew ?_ | refine blk_alloc ?_ _)); exact BK280.out)) (below_size (by repeat (first | (with_reducible first | exact HB.out | apply below_alloc | apply pw_below_drewN | apply below_drew1 | refine below_set ?_ GE263.out | refine below_set ?_ GE280.out) | exact HB.out)))); have n4_ := Aside0.mk (blk_below (g := gb263) (o := .cells #[.int .i64 ((rd_T28 t256 x21_1).f0), .int .i64 ((rd_T28 t256 x21_1).f1), .int .i64 ((rd_T28 t256 x21_1).f2)] 28 (0, 0)) (by (with_reducible repeat (first | refine blk_drewN ?_ _ | refine blk_drew ?_ | refine blk_alloc ?_ _)); exact BK263.out) hb); have n5_ := Aside0.mk (blk_below (g := gb280) (o := .cells #[.int .u64 0, .int .u64 0] 35 (0, 0)) (by (with_reducible repeat (first | refine blk_drewN ?_ _ | refine blk_drew ?_ | refine blk_alloc ?_ _)); exact BK280.out) hb); have n6_ := Aside0.mk (below_step (by repeat (first | (with_reducible first | exact HB.out | apply below_alloc | apply pw_below_drewN | apply below_drew1 | refine below_set ?_ GE263.out | refine below_set ?_ GE280.out) | exact HB.out)) hb); clear HO_3; clear HO_4; clear HO_19; clear BK263; clear BK280; clear HB; have HO_3 := n0_; have HO_4 := n1_; have HO_19 := n2_; have HO283 := n3_; have BK263 := n4_; have BK280 := n5_; have HB := n6_; clear n0_ n1_ n2_ n3_ n4_ n5_ n6_; (try clear hb); (try clear hb2); (try clear hk); (try clear hi); (try clear ho0); have hcz69_0 : w68.cell? ⟨gb280, 0, none⟩ = some (.int .u64 0) := (blk_cell BK280.out 0).trans rfl; have hcz69_1 : w68.cell? ⟨gb280, 1, none⟩ = some (.int .u64 0) := (blk_cell BK280.out 1).trans rfl; have hfz69_0 := blk_frozen BK280.out 0; have hfz69_1 := blk_frozen BK280.out 1))
                                  go_meet
                                  case rel => exact ⟨_, (t279), (t281), (t284), (by first | rfl | (simp; done) | (simp [*]; done)), H', ⟨by have := HK1.out; have := HJ14.out; have := HJ40.out; first | omega | exact Nat.le_refl _⟩, ⟨by (with_reducible repeat (first | apply Kd.R_alloc | apply Kd.R_drewN | apply Kd.R_drew)); exact Kd.R_mono (Kd.R_far (p := ⟨gb280, 1, none⟩) (Kd.R_far (p := ⟨gb280, 0, none⟩) (Kd.R_types HO_3.out BK280.out (by decide)) (fun _ hk => hk.2) (.int .u64 t285)) (fun _ hk => hk.2) (.int .u64 t286)) (fun _ hk => trivial)⟩, ⟨by (with_reducible repeat (first | apply Kd.R_alloc | apply Kd.R_drewN | apply Kd.R_drew)); exact Kd.R_mono (Kd.R_far (p := ⟨gb280, 1, none⟩) (Kd.R_far (p := ⟨gb280, 0, none⟩) (Kd.R_mono HO283.out (fun k_ hk => (⟨hk, hk.2⟩ : _ ∧ k_ ≠ gb280))) (fun _ hk => hk.2) (.int .u64 t285)) (fun _ hk => hk.2) (.int .u64 t286)) (fun _ hk => trivial)⟩, ⟨by (with_reducible repeat (first | apply Kd.R_alloc | apply Kd.R_drewN | apply Kd.R_drew)); exact Kd.R_mono (Kd.R_far (p := ⟨gb280, 1, none⟩) (Kd.R_far (p := ⟨gb280, 0, none⟩) (Kd.R_types HO_19.out BK280.out (by decide)) (fun _ hk => hk.2) (.int .u64 t285)) (fun _ hk => hk.2) (.int .u64 t286)) (fun _ hk => hk.1)⟩, ⟨by (with_reducible repeat (first | refine blk_drewN ?_ _ | refine blk_drew ?_ | refine blk_alloc ?_ _)); refine blk_far ?_ NB263_280.out _; (with_reducible repeat (first | refine blk_drewN ?_ _ | refine blk_drew ?_ | refine blk_alloc ?_ _)); refine blk_far ?_ NB263_280.out _; (with_reducible repeat (first | refine blk_drewN ?_ _ | refine blk_drew ?_ | refine blk_alloc ?_ _)); exact BK263.out⟩, ⟨by repeat (first | (with_reducible first | exact HB.out | apply below_alloc | apply pw_below_drewN | apply below_drew1 | refine below_set ?_ GE263.out | refine below_set ?_ GE280.out) | exact HB.out)⟩⟩
                              · as_aux_lemma =>
                                replace c47 := Bool.eq_false_iff.mpr c47
                                subst c47
                                have H1 : ((spec_Count.f kj40 x3_1).bind fun t287 => (laws_FnScriptWhole.j3 kj40 x3_1 x4_1 t287 t256 (t256.length : Int) x21_1 ((rd_T28 t256 x21_1).f0) ((rd_T28 t256 x21_1).f1) ((rd_T28 t256 x21_1).f2))) = some r := by rw [if_neg (show ¬ (false = true) by decide)] at H; exact H
                                clear H
                                have H := H1
                                clear H1
                                replace H := Option.bind_eq_some_iff.mp H
                                obtain ⟨t287, A700, H⟩ := H
                                replace H : (laws_FnScriptWhole.j3 kj40 x3_1 x4_1 t287 t256 (t256.length : Int) x21_1 ((rd_T28 t256 x21_1).f0) ((rd_T28 t256 x21_1).f1) ((rd_T28 t256 x21_1).f2)) = some r := H
                                have A70 := Aside0.mk A700
                                clear A700
                                have H' := Aside0.mk H
                                clear H
                                obtain ⟨Ao71, co71, eo71⟩ := Kd.R_slice HO_3.out
                                subst eo71
                                go_wp2_with (first | ((with_reducible refine gate_callee (f := 12) rfl ?_); refine goesL_ (some 26) rfl rfl Try.func12 (by kernel_rfl) rfl #[.slice Ao71 x3_1.length co71] rfl (by (try simp only [List.map_toArray, List.map_cons, List.map_nil]); first | done | rfl | (simp only [List.length_drop, List.length_take]; rfl)) ?_; (with_reducible refine (spec_Count.calls kj40 _ _ x3_1 t287 _ ?side1 ?side2 A70.out).mono ?_); (case side1 => repeat (first | exact (Kd.R_reads' HO_3.out).2.2 | (with_reducible refine Kd.C_alloc ?_ _) | (with_reducible refine Kd.C_drewN ?_ _) | (with_reducible refine Kd.C_drew ?_))); (case side2 => exact (Kd.R_reads' HO_3.out).2.1); rintro e w' ⟨rfl, ⟨nd, rfl⟩⟩; refine ⟨_, rfl, ?_⟩))
                                go_meet
                                case rel => exact ⟨_, (x3_1), (x4_1), (t287), (by first | rfl | (simp; done) | (simp [*]; done)), H', ⟨by have := HK1.out; have := HJ14.out; have := HJ40.out; first | omega | exact Nat.le_refl _⟩, ⟨by (with_reducible repeat (first | apply Kd.R_alloc | apply Kd.R_drewN | apply Kd.R_drew)); exact HO_3.out⟩, ⟨by (with_reducible repeat (first | apply Kd.R_alloc | apply Kd.R_drewN | apply Kd.R_drew)); exact HO_4.out⟩, ⟨by (with_reducible repeat (first | apply Kd.R_alloc | apply Kd.R_drewN | apply Kd.R_drew)); exact HO_19.out⟩, ⟨by (with_reducible repeat (first | refine blk_drewN ?_ _ | refine blk_drew ?_ | refine blk_alloc ?_ _)); exact BK263.out⟩, ⟨by repeat (first | (with_reducible first | exact HB.out | apply below_alloc | apply pw_below_drewN | apply below_drew1 | refine below_set ?_ GE263.out) | exact HB.out)⟩⟩
                case rest =>
                  as_aux_lemma =>
                  clear HC12
                  try clear c1
                  try clear c2
                  try clear c2b0
                  try clear c2b1
                  try clear p2
                  try clear q2
                  try clear hx2
                  try clear c3
                  try clear c3b0
                  try clear c3b1
                  try clear c4
                  try clear c5
                  try clear c6
                  try clear p6
                  try clear c7
                  try clear c8
                  try clear c9
                  try clear c9b0
                  try clear c10
                  try clear c10b0
                  try clear c11
                  try clear c11b0
                  try clear c12
                  try clear c16
                  try clear c16b0
                  try clear c16b1
                  try clear c21
                  try clear p26
                  try clear q26
                  try clear hx26
                  try clear c32
                  try clear c32b0
                  try clear c32b1
                  try clear c43
                  try clear c43b0
                  try clear c43b1
                  try clear c47
                  try clear c51
                  try clear c51b0
                  try clear c56
                  try clear p64
                  try clear c65
                  try clear hcz14_0
                  try clear hcz14_1
                  try clear hcz14_2
                  try clear hcz18_0
                  try clear hcz18_1
                  try clear hcz18_2
                  try clear hcz20_0
                  try clear hcz20_1
                  try clear hcz20_2
                  try clear hcz25_0
                  try clear hcz25_1
                  try clear hcz25_2
                  try clear hcz28_0
                  try clear hcz28_1
                  try clear hcz28_2
                  try clear hcz35_0
                  try clear hcz35_1
                  try clear hcz35_2
                  try clear hcz38_0
                  try clear hcz38_1
                  try clear hcz38_2
                  try clear hcz42_0
                  try clear hcz42_1
                  try clear hcz42_2
                  try clear hcz44_0
                  try clear hcz44_1
                  try clear hcz44_2
                  try clear hcz46_0
                  try clear hcz46_1
                  try clear hcz46_2
                  try clear hcz52_0
                  try clear hcz52_1
                  try clear hcz52_2
                  try clear hcz57_0
                  try clear hcz57_1
                  try clear hcz57_2
                  try clear hcz60_0
                  try clear hcz60_1
                  try clear hcz61_0
                  try clear hcz61_1
                  try clear hcz61_2
                  try clear hcz66_0
                  try clear hcz66_1
                  try clear hcz66_2
                  try clear hcz69_0
                  try clear hcz69_1
                  try clear hfz14_0
                  try clear hfz14_1
                  try clear hfz14_2
                  try clear hfz18_0
                  try clear hfz18_1
                  try clear hfz18_2
                  try clear hfz20_0
                  try clear hfz20_1
                  try clear hfz20_2
                  try clear hfz25_0
                  try clear hfz25_1
                  try clear hfz25_2
                  try clear hfz28_0
                  try clear hfz28_1
                  try clear hfz28_2
                  try clear hfz35_0
                  try clear hfz35_1
                  try clear hfz35_2
                  try clear hfz38_0
                  try clear hfz38_1
                  try clear hfz38_2
                  try clear hfz42_0
                  try clear hfz42_1
                  try clear hfz42_2
                  try clear hfz44_0
                  try clear hfz44_1
                  try clear hfz44_2
                  try clear hfz46_0
                  try clear hfz46_1
                  try clear hfz46_2
                  try clear hfz52_0
                  try clear hfz52_1
                  try clear hfz52_2
                  try clear hfz57_0
                  try clear hfz57_1
                  try clear hfz57_2
                  try clear hfz60_0
                  try clear hfz60_1
                  try clear hfz61_0
                  try clear hfz61_1
                  try clear hfz61_2
                  try clear hfz66_0
                  try clear hfz66_1
                  try clear hfz66_2
                  try clear hfz69_0
                  try clear hfz69_1
                  try clear hx262_0
                  try clear hx262_1
                  try clear hx262_2
                  try clear p2
                  try clear p26
                  try clear p262
                  try clear p6
                  try clear q2
                  try clear q26
                  try clear q262
                  obtain ⟨kq, x3_11, x4_11, x7_11, rfl, HA, HJ11, HO_3, HO_4, HO_19, BK263, HB⟩ := hcut
                  cases kq with
                  | zero => exact absurd HA.out (by simp [laws_FnScriptWhole.j3])
                  | succ kj11 =>
                    have H := HA.out
                    clear HA
                    simp only [laws_FnScriptWhole.j3] at H
                    have HC72 := Aside0.mk H
                    clear H
                    go_upto_region 23 with (fail)
                    go_cut [127] (fun v127 wc => ∃ (kq : Nat) (x127_71 : Bool), v127 = .bool x127_71 ∧ Aside0 (laws_FnScriptWhole.j4 kq x3_11 x4_11 t256 (t256.length : Int) x21_1 x127_71 ((rd_T28 t256 x21_1).f0) ((rd_T28 t256 x21_1).f1) ((rd_T28 t256 x21_1).f2) = some r) ∧ Aside0 (kq ≤ kj11) ∧ Aside0 (Kd.R Kd.bool 4 wc w.heap.size (fun _ => True) v254 x3_11) ∧ Aside0 (Kd.R k35 35 wc w.heap.size (fun _ => True) u4 x4_11) ∧ Aside0 (Kd.R k28 28 wc w.heap.size (fun k_ => k_ ≠ gb263) (.slice (some ad262) t256.length co8) t256) ∧ Aside0 (wc.heap[gb263]? = some (.cells #[.int .i64 ((rd_T28 t256 x21_1).f0), .int .i64 ((rd_T28 t256 x21_1).f1), .int .i64 ((rd_T28 t256 x21_1).f2)] 28 (0, 0))) ∧ Aside0 (Below w.heap.size w wc))
                    case first =>
                      as_aux_lemma =>
                      have H := HC72.out
                      clear HC72
                      replace H := Option.bind_eq_some_iff.mp H
                      obtain ⟨t288, A730, H⟩ := H
                      replace H : ((spec_Same.f kj11 x4_11 t288).bind fun t291 => (if t291 = true then ((spec_Count.f kj11 x3_11).bind fun t292 => (laws_FnScriptWhole.j4 kj11 x3_11 x4_11 t256 (t256.length : Int) x21_1 (x7_11 != t292) ((rd_T28 t256 x21_1).f0) ((rd_T28 t256 x21_1).f1) ((rd_T28 t256 x21_1).f2))) else (laws_FnScriptWhole.j4 kj11 x3_11 x4_11 t256 (t256.length : Int) x21_1 true ((rd_T28 t256 x21_1).f0) ((rd_T28 t256 x21_1).f1) ((rd_T28 t256 x21_1).f2)))) = some r := H
                      have A73 := Aside0.mk A730
                      clear A730
                      replace H := Option.bind_eq_some_iff.mp H
                      obtain ⟨t291, A740, H⟩ := H
                      replace H : (if t291 = true then ((spec_Count.f kj11 x3_11).bind fun t292 => (laws_FnScriptWhole.j4 kj11 x3_11 x4_11 t256 (t256.length : Int) x21_1 (x7_11 != t292) ((rd_T28 t256 x21_1).f0) ((rd_T28 t256 x21_1).f1) ((rd_T28 t256 x21_1).f2))) else (laws_FnScriptWhole.j4 kj11 x3_11 x4_11 t256 (t256.length : Int) x21_1 true ((rd_T28 t256 x21_1).f0) ((rd_T28 t256 x21_1).f1) ((rd_T28 t256 x21_1).f2))) = some r := H
                      have A74 := Aside0.mk A740
                      clear A740
                      by_cases c75 : t291 = true
                      · as_aux_lemma =>
                        subst c75
                        have H1 : ((spec_Count.f kj11 x3_11).bind fun t292 => (laws_FnScriptWhole.j4 kj11 x3_11 x4_11 t256 (t256.length : Int) x21_1 (x7_11 != t292) ((rd_T28 t256 x21_1).f0) ((rd_T28 t256 x21_1).f1) ((rd_T28 t256 x21_1).f2))) = some r := by rw [if_pos rfl] at H; exact H
                        clear H
                        have H := H1
                        clear H1
                        replace H := Option.bind_eq_some_iff.mp H
                        obtain ⟨t292, A760, H⟩ := H
                        replace H : (laws_FnScriptWhole.j4 kj11 x3_11 x4_11 t256 (t256.length : Int) x21_1 (x7_11 != t292) ((rd_T28 t256 x21_1).f0) ((rd_T28 t256 x21_1).f1) ((rd_T28 t256 x21_1).f2)) = some r := H
                        have A76 := Aside0.mk A760
                        clear A760
                        have H' := Aside0.mk H
                        clear H
                        obtain ⟨Ao77, co77, eo77⟩ := Kd.R_slice HO_3.out
                        subst eo77
                        go_wp2_with (first | ((with_reducible refine gate_callee (f := 14) rfl ?_); refine goesL_ (some 119) rfl rfl Try.func14 (by kernel_rfl) rfl #[.slice Ao77 x3_11.length co77] rfl (by (try simp only [List.map_toArray, List.map_cons, List.map_nil]); first | done | rfl | (simp only [List.length_drop, List.length_take]; rfl)) ?_; (with_reducible refine (spec_Runs.calls kj11 _ _ x3_11 t288 _ ?side1 ?side2 A73.out).mono ?_); (case side1 => repeat (first | exact (Kd.R_reads' HO_3.out).2.2 | (with_reducible refine Kd.C_alloc ?_ _) | (with_reducible refine Kd.C_drewN ?_ _) | (with_reducible refine Kd.C_drew ?_))); (case side2 => exact (Kd.R_reads' HO_3.out).2.1); rintro e w78 ⟨v289, rfl, ho0, hb⟩; refine ⟨_, rfl, ?_⟩; have n0_ := Aside0.mk (Kd.R_below (by (with_reducible repeat (first | apply Kd.R_alloc | apply Kd.R_drewN | apply Kd.R_drew)); exact HO_3.out) hb); have n1_ := Aside0.mk (Kd.R_elder' (by (with_reducible repeat (first | apply Kd.R_alloc | apply Kd.R_drewN | apply Kd.R_drew)); exact HO_4.out) (Kd.R_base ho0) hb); have n2_ := Aside0.mk (Kd.R_below (by (with_reducible repeat (first | apply Kd.R_alloc | apply Kd.R_drewN | apply Kd.R_drew)); exact HO_19.out) hb); have n3_ := Aside0.mk (Kd.R_lower (Kd.R_new' ho0 (Kd.R_lt (by (with_reducible repeat (first | apply Kd.R_alloc | apply Kd.R_drewN | apply Kd.R_drew)); exact HO_4.out))) (below_size (by repeat (first | (with_reducible first | exact HB.out | apply below_alloc | apply pw_below_drewN | apply below_drew1 | refine below_set ?_ GE263.out) | exact HB.out)))); have n4_ := Aside0.mk (blk_below (g := gb263) (o := .cells #[.int .i64 ((rd_T28 t256 x21_1).f0), .int .i64 ((rd_T28 t256 x21_1).f1), .int .i64 ((rd_T28 t256 x21_1).f2)] 28 (0, 0)) (by (with_reducible repeat (first | refine blk_drewN ?_ _ | refine blk_drew ?_ | refine blk_alloc ?_ _)); exact BK263.out) hb); have n5_ := Aside0.mk (below_step (by repeat (first | (with_reducible first | exact HB.out | apply below_alloc | apply pw_below_drewN | apply below_drew1 | refine below_set ?_ GE263.out) | exact HB.out)) hb); clear HO_3; clear HO_4; clear HO_19; clear BK263; clear HB; have HO_3 := n0_; have HO_4 := n1_; have HO_19 := n2_; have HO290 := n3_; have BK263 := n4_; have HB := n5_; clear n0_ n1_ n2_ n3_ n4_ n5_; (try clear hb); (try clear hb2); (try clear hk); (try clear hi); (try clear ho0); obtain ⟨Ao79, co79, eo79⟩ := Kd.R_slice HO_4.out; subst eo79; obtain ⟨Ao80, co80, eo80⟩ := Kd.R_slice HO290.out; subst eo80) | ((with_reducible refine gate_callee (f := 13) rfl ?_); refine goesL_ (some 120) rfl rfl Try.func13 (by kernel_rfl) rfl #[.slice Ao79 x4_11.length co79, .slice Ao80 t288.length co80] rfl (by (try simp only [List.map_toArray, List.map_cons, List.map_nil]); first | done | rfl | (simp only [List.length_drop, List.length_take]; rfl)) ?_; (with_reducible refine (spec_Same.calls kj11 _ _ x4_11 _ _ t288 true _ ?side1 ?side2 ?side3 ?side4 A74.out).mono ?_); (case side1 => repeat (first | exact (Kd.R_reads' HO_4.out).2.2 | (with_reducible refine Kd.C_alloc ?_ _) | (with_reducible refine Kd.C_drewN ?_ _) | (with_reducible refine Kd.C_drew ?_))); (case side2 => exact (Kd.R_reads' HO_4.out).2.1); (case side3 => repeat (first | exact (Kd.R_reads' HO290.out).2.2 | (with_reducible refine Kd.C_alloc ?_ _) | (with_reducible refine Kd.C_drewN ?_ _) | (with_reducible refine Kd.C_drew ?_))); (case side4 => exact (Kd.R_reads' HO290.out).2.1); rintro e w' ⟨rfl, ⟨nd, rfl⟩⟩; refine ⟨_, rfl, ?_⟩) | (go_at_call 12; (with_reducible refine (spec_Count.calls kj11 _ _ x3_11 t292 _ ?side1 ?side2 A76.out).mono ?_); (case side1 => repeat (first | exact (Kd.R_reads' HO_3.out).2.2 | (with_reducible refine Kd.C_alloc ?_ _) | (with_reducible refine Kd.C_drewN ?_ _) | (with_reducible refine Kd.C_drew ?_))); (case side2 => exact (Kd.R_reads' HO_3.out).2.1); rintro e w' ⟨rfl, ⟨nd, rfl⟩⟩))
                        go_meet
                        case rel => exact ⟨_, ((x7_11 != t292)), (by first | rfl | (simp; done) | (simp [*]; done)), H', ⟨by have := HK1.out; have := HJ11.out; first | omega | exact Nat.le_refl _⟩, ⟨by (with_reducible repeat (first | apply Kd.R_alloc | apply Kd.R_drewN | apply Kd.R_drew)); exact HO_3.out⟩, ⟨by (with_reducible repeat (first | apply Kd.R_alloc | apply Kd.R_drewN | apply Kd.R_drew)); exact Kd.R_mono HO_4.out (fun _ hk => trivial)⟩, ⟨by (with_reducible repeat (first | apply Kd.R_alloc | apply Kd.R_drewN | apply Kd.R_drew)); exact HO_19.out⟩, ⟨by (with_reducible repeat (first | refine blk_drewN ?_ _ | refine blk_drew ?_ | refine blk_alloc ?_ _)); exact BK263.out⟩, ⟨by repeat (first | (with_reducible first | exact HB.out | apply below_alloc | apply pw_below_drewN | apply below_drew1 | refine below_set ?_ GE263.out) | exact HB.out)⟩⟩
                      · as_aux_lemma =>
                        replace c75 := Bool.eq_false_iff.mpr c75
                        subst c75
                        have H1 : (laws_FnScriptWhole.j4 kj11 x3_11 x4_11 t256 (t256.length : Int) x21_1 true ((rd_T28 t256 x21_1).f0) ((rd_T28 t256 x21_1).f1) ((rd_T28 t256 x21_1).f2)) = some r := by rw [if_neg (show ¬ (false = true) by decide)] at H; exact H
                        clear H
                        have H := H1
                        clear H1
                        have H' := Aside0.mk H
                        clear H
                        obtain ⟨Ao81, co81, eo81⟩ := Kd.R_slice HO_3.out
                        subst eo81
                        go_wp2_with (first | ((with_reducible refine gate_callee (f := 14) rfl ?_); refine goesL_ (some 119) rfl rfl Try.func14 (by kernel_rfl) rfl #[.slice Ao81 x3_11.length co81] rfl (by (try simp only [List.map_toArray, List.map_cons, List.map_nil]); first | done | rfl | (simp only [List.length_drop, List.length_take]; rfl)) ?_; (with_reducible refine (spec_Runs.calls kj11 _ _ x3_11 t288 _ ?side1 ?side2 A73.out).mono ?_); (case side1 => repeat (first | exact (Kd.R_reads' HO_3.out).2.2 | (with_reducible refine Kd.C_alloc ?_ _) | (with_reducible refine Kd.C_drewN ?_ _) | (with_reducible refine Kd.C_drew ?_))); (case side2 => exact (Kd.R_reads' HO_3.out).2.1); rintro e w82 ⟨v289, rfl, ho0, hb⟩; refine ⟨_, rfl, ?_⟩; have n0_ := Aside0.mk (Kd.R_below (by (with_reducible repeat (first | apply Kd.R_alloc | apply Kd.R_drewN | apply Kd.R_drew)); exact HO_3.out) hb); have n1_ := Aside0.mk (Kd.R_elder' (by (with_reducible repeat (first | apply Kd.R_alloc | apply Kd.R_drewN | apply Kd.R_drew)); exact HO_4.out) (Kd.R_base ho0) hb); have n2_ := Aside0.mk (Kd.R_below (by (with_reducible repeat (first | apply Kd.R_alloc | apply Kd.R_drewN | apply Kd.R_drew)); exact HO_19.out) hb); have n3_ := Aside0.mk (Kd.R_lower (Kd.R_new' ho0 (Kd.R_lt (by (with_reducible repeat (first | apply Kd.R_alloc | apply Kd.R_drewN | apply Kd.R_drew)); exact HO_4.out))) (below_size (by repeat (first | (with_reducible first | exact HB.out | apply below_alloc | apply pw_below_drewN | apply below_drew1 | refine below_set ?_ GE263.out) | exact HB.out)))); have n4_ := Aside0.mk (blk_below (g := gb263) (o := .cells #[.int .i64 ((rd_T28 t256 x21_1).f0), .int .i64 ((rd_T28 t256 x21_1).f1), .int .i64 ((rd_T28 t256 x21_1).f2)] 28 (0, 0)) (by (with_reducible repeat (first | refine blk_drewN ?_ _ | refine blk_drew ?_ | refine blk_alloc ?_ _)); exact BK263.out) hb); have n5_ := Aside0.mk (below_step (by repeat (first | (with_reducible first | exact HB.out | apply below_alloc | apply pw_below_drewN | apply below_drew1 | refine below_set ?_ GE263.out) | exact HB.out)) hb); clear HO_3; clear HO_4; clear HO_19; clear BK263; clear HB; have HO_3 := n0_; have HO_4 := n1_; have HO_19 := n2_; have HO290 := n3_; have BK263 := n4_; have HB := n5_; clear n0_ n1_ n2_ n3_ n4_ n5_; (try clear hb); (try clear hb2); (try clear hk); (try clear hi); (try clear ho0); obtain ⟨Ao83, co83, eo83⟩ := Kd.R_slice HO_4.out; subst eo83; obtain ⟨Ao84, co84, eo84⟩ := Kd.R_slice HO290.out; subst eo84) | ((with_reducible refine gate_callee (f := 13) rfl ?_); refine goesL_ (some 120) rfl rfl Try.func13 (by kernel_rfl) rfl #[.slice Ao83 x4_11.length co83, .slice Ao84 t288.length co84] rfl (by (try simp only [List.map_toArray, List.map_cons, List.map_nil]); first | done | rfl | (simp only [List.length_drop, List.length_take]; rfl)) ?_; (with_reducible refine (spec_Same.calls kj11 _ _ x4_11 _ _ t288 false _ ?side1 ?side2 ?side3 ?side4 A74.out).mono ?_); (case side1 => repeat (first | exact (Kd.R_reads' HO_4.out).2.2 | (with_reducible refine Kd.C_alloc ?_ _) | (with_reducible refine Kd.C_drewN ?_ _) | (with_reducible refine Kd.C_drew ?_))); (case side2 => exact (Kd.R_reads' HO_4.out).2.1); (case side3 => repeat (first | exact (Kd.R_reads' HO290.out).2.2 | (with_reducible refine Kd.C_alloc ?_ _) | (with_reducible refine Kd.C_drewN ?_ _) | (with_reducible refine Kd.C_drew ?_))); (case side4 => exact (Kd.R_reads' HO290.out).2.1); rintro e w' ⟨rfl, ⟨nd, rfl⟩⟩; refine ⟨_, rfl, ?_⟩))
                        go_meet
                        case rel => exact ⟨_, (true), (by first | rfl | (simp; done) | (simp [*]; done)), H', ⟨by have := HK1.out; have := HJ11.out; first | omega | exact Nat.le_refl _⟩, ⟨by (with_reducible repeat (first | apply Kd.R_alloc | apply Kd.R_drewN | apply Kd.R_drew)); exact HO_3.out⟩, ⟨by (with_reducible repeat (first | apply Kd.R_alloc | apply Kd.R_drewN | apply Kd.R_drew)); exact Kd.R_mono HO_4.out (fun _ hk => trivial)⟩, ⟨by (with_reducible repeat (first | apply Kd.R_alloc | apply Kd.R_drewN | apply Kd.R_drew)); exact HO_19.out⟩, ⟨by (with_reducible repeat (first | refine blk_drewN ?_ _ | refine blk_drew ?_ | refine blk_alloc ?_ _)); exact BK263.out⟩, ⟨by repeat (first | (with_reducible first | exact HB.out | apply below_alloc | apply pw_below_drewN | apply below_drew1 | refine below_set ?_ GE263.out) | exact HB.out)⟩⟩
                    case rest =>
                      as_aux_lemma =>
                      clear HC72
                      try clear c1
                      try clear c2
                      try clear c2b0
                      try clear c2b1
                      try clear p2
                      try clear q2
                      try clear hx2
                      try clear c3
                      try clear c3b0
                      try clear c3b1
                      try clear c4
                      try clear c5
                      try clear c6
                      try clear p6
                      try clear c7
                      try clear c8
                      try clear c9
                      try clear c9b0
                      try clear c10
                      try clear c10b0
                      try clear c11
                      try clear c11b0
                      try clear c12
                      try clear c13
                      try clear c14
                      try clear c16
                      try clear c16b0
                      try clear c16b1
                      try clear c21
                      try clear p26
                      try clear q26
                      try clear hx26
                      try clear c32
                      try clear c32b0
                      try clear c32b1
                      try clear c43
                      try clear c43b0
                      try clear c43b1
                      try clear c47
                      try clear c51
                      try clear c51b0
                      try clear c56
                      try clear p64
                      try clear c65
                      try clear c75
                      try clear hcz14_0
                      try clear hcz14_1
                      try clear hcz14_2
                      try clear hcz18_0
                      try clear hcz18_1
                      try clear hcz18_2
                      try clear hcz20_0
                      try clear hcz20_1
                      try clear hcz20_2
                      try clear hcz25_0
                      try clear hcz25_1
                      try clear hcz25_2
                      try clear hcz28_0
                      try clear hcz28_1
                      try clear hcz28_2
                      try clear hcz35_0
                      try clear hcz35_1
                      try clear hcz35_2
                      try clear hcz38_0
                      try clear hcz38_1
                      try clear hcz38_2
                      try clear hcz42_0
                      try clear hcz42_1
                      try clear hcz42_2
                      try clear hcz44_0
                      try clear hcz44_1
                      try clear hcz44_2
                      try clear hcz46_0
                      try clear hcz46_1
                      try clear hcz46_2
                      try clear hcz52_0
                      try clear hcz52_1
                      try clear hcz52_2
                      try clear hcz57_0
                      try clear hcz57_1
                      try clear hcz57_2
                      try clear hcz60_0
                      try clear hcz60_1
                      try clear hcz61_0
                      try clear hcz61_1
                      try clear hcz61_2
                      try clear hcz66_0
                      try clear hcz66_1
                      try clear hcz66_2
                      try clear hcz69_0
                      try clear hcz69_1
                      try clear hfz14_0
                      try clear hfz14_1
                      try clear hfz14_2
                      try clear hfz18_0
                      try clear hfz18_1
                      try clear hfz18_2
                      try clear hfz20_0
                      try clear hfz20_1
                      try clear hfz20_2
                      try clear hfz25_0
                      try clear hfz25_1
                      try clear hfz25_2
                      try clear hfz28_0
                      try clear hfz28_1
                      try clear hfz28_2
                      try clear hfz35_0
                      try clear hfz35_1
                      try clear hfz35_2
                      try clear hfz38_0
                      try clear hfz38_1
                      try clear hfz38_2
                      try clear hfz42_0
                      try clear hfz42_1
                      try clear hfz42_2
                      try clear hfz44_0
                      try clear hfz44_1
                      try clear hfz44_2
                      try clear hfz46_0
                      try clear hfz46_1
                      try clear hfz46_2
                      try clear hfz52_0
                      try clear hfz52_1
                      try clear hfz52_2
                      try clear hfz57_0
                      try clear hfz57_1
                      try clear hfz57_2
                      try clear hfz60_0
                      try clear hfz60_1
                      try clear hfz61_0
                      try clear hfz61_1
                      try clear hfz61_2
                      try clear hfz66_0
                      try clear hfz66_1
                      try clear hfz66_2
                      try clear hfz69_0
                      try clear hfz69_1
                      try clear hx262_0
                      try clear hx262_1
                      try clear hx262_2
                      try clear p2
                      try clear p26
                      try clear p262
                      try clear p6
                      try clear p64
                      try clear q2
                      try clear q26
                      try clear q262
                      obtain ⟨kq, x127_71, rfl, HA, HJ71, HO_3, HO_4, HO_19, BK263, HB⟩ := hcut
                      cases kq with
                      | zero => exact absurd HA.out (by simp [laws_FnScriptWhole.j4])
                      | succ kj71 =>
                        have H := HA.out
                        clear HA
                        simp only [laws_FnScriptWhole.j4] at H
                        by_cases c85 : x127_71 = true
                        · as_aux_lemma =>
                          subst c85
                          have H1 : (some false) = some r := by rw [if_pos rfl] at H; exact H
                          clear H
                          have H := H1
                          clear H1
                          obtain rfl := Option.some.inj H
                          go_wp2
                          go_ret
                          exact ⟨by first | rfl | (simp [errW_none, errW_some] <;> rfl) | (simp [*, errW_none, errW_some] <;> rfl), by repeat (first | (with_reducible first | exact HB.out | apply below_alloc | apply pw_below_drewN | apply below_drew1 | refine below_set ?_ GE263.out) | exact HB.out)⟩
                        · as_aux_lemma =>
                          replace c85 := Bool.eq_false_iff.mpr c85
                          subst c85
                          have H1 : ((spec_Next.f kj71 x3_11 ((rd_T28 t256 x21_1).f1)).bind fun t293 => (if (x4_11.length : Int) > 0 then ((impl_FindAddrGreaterEqual.f kj71 x4_11 (IntKind.u64.wrap (((rd_T28 t256 x21_1).f1)))).bind fun bt294 => (if (bt294.2 != (decide (t293 ≥ 0))) = true then (laws_FnScriptWhole.j5 kj71 x3_11 x4_11 t256 (t256.length : Int) x21_1 true ((rd_T28 t256 x21_1).f0) ((rd_T28 t256 x21_1).f1) ((rd_T28 t256 x21_1).f2)) else (if bt294.2 = true then (laws_FnScriptWhole.j5 kj71 x3_11 x4_11 t256 (t256.length : Int) x21_1 (bt294.1 != (IntKind.u64.wrap (t293))) ((rd_T28 t256 x21_1).f0) ((rd_T28 t256 x21_1).f1) ((rd_T28 t256 x21_1).f2)) else (laws_FnScriptWhole.j5 kj71 x3_11 x4_11 t256 (t256.length : Int) x21_1 false ((rd_T28 t256 x21_1).f0) ((rd_T28 t256 x21_1).f1) ((rd_T28 t256 x21_1).f2))))) else ((impl_InList.f kj71 x4_11 (IntKind.u64.wrap (((rd_T28 t256 x21_1).f1)))).bind fun t298 => (if 0 ≤ ((rd_T28 t256 x21_1).f1) then (if ((rd_T28 t256 x21_1).f1) < (x3_11.length : Int) then (if (t298 != (rdOf false x3_11 ((rd_T28 t256 x21_1).f1))) = true then (some false) else (laws_FnScriptWhole.l0 kj71 x3_11 x4_11 t256 (t256.length : Int) (wrap64 (x21_1 + 1)))) else (none)) else (none))))) = some r := by rw [if_neg (show ¬ (false = true) by decide)] at H; exact H
                          clear H
                          have H := H1
                          clear H1
                          replace H := Option.bind_eq_some_iff.mp H
                          obtain ⟨t293, A860, H⟩ := H
                          replace H : (if (x4_11.length : Int) > 0 then ((impl_FindAddrGreaterEqual.f kj71 x4_11 (IntKind.u64.wrap (((rd_T28 t256 x21_1).f1)))).bind fun bt294 => (if (bt294.2 != (decide (t293 ≥ 0))) = true then (laws_FnScriptWhole.j5 kj71 x3_11 x4_11 t256 (t256.length : Int) x21_1 true ((rd_T28 t256 x21_1).f0) ((rd_T28 t256 x21_1).f1) ((rd_T28 t256 x21_1).f2)) else (if bt294.2 = true then (laws_FnScriptWhole.j5 kj71 x3_11 x4_11 t256 (t256.length : Int) x21_1 (bt294.1 != (IntKind.u64.wrap (t293))) ((rd_T28 t256 x21_1).f0) ((rd_T28 t256 x21_1).f1) ((rd_T28 t256 x21_1).f2)) else (laws_FnScriptWhole.j5 kj71 x3_11 x4_11 t256 (t256.length : Int) x21_1 false ((rd_T28 t256 x21_1).f0) ((rd_T28 t256 x21_1).f1) ((rd_T28 t256 x21_1).f2))))) else ((impl_InList.f kj71 x4_11 (IntKind.u64.wrap (((rd_T28 t256 x21_1).f1)))).bind fun t298 => (if 0 ≤ ((rd_T28 t256 x21_1).f1) then (if ((rd_T28 t256 x21_1).f1) < (x3_11.length : Int) then (if (t298 != (rdOf false x3_11 ((rd_T28 t256 x21_1).f1))) = true then (some false) else (laws_FnScriptWhole.l0 kj71 x3_11 x4_11 t256 (t256.length : Int) (wrap64 (x21_1 + 1)))) else (none)) else (none)))) = some r := H
                          have A86 := Aside0.mk A860
                          clear A860
                          by_cases c87 : (x4_11.length : Int) > 0
                          · as_aux_lemma =>
                            rw [if_pos c87] at H
                            have c87b0 : decide (0 < (x4_11.length : Int)) = true := decide_eq_true c87
                            have c87b1 : decide (0 < x4_11.length) = true := decide_eq_true (by omega)
                            clear c87
                            replace H := Option.bind_eq_some_iff.mp H
                            obtain ⟨⟨t294, t295⟩, A880, H⟩ := H
                            replace H : (if (t295 != (decide (t293 ≥ 0))) = true then (laws_FnScriptWhole.j5 kj71 x3_11 x4_11 t256 (t256.length : Int) x21_1 true ((rd_T28 t256 x21_1).f0) ((rd_T28 t256 x21_1).f1) ((rd_T28 t256 x21_1).f2)) else (if t295 = true then (laws_FnScriptWhole.j5 kj71 x3_11 x4_11 t256 (t256.length : Int) x21_1 (t294 != (IntKind.u64.wrap (t293))) ((rd_T28 t256 x21_1).f0) ((rd_T28 t256 x21_1).f1) ((rd_T28 t256 x21_1).f2)) else (laws_FnScriptWhole.j5 kj71 x3_11 x4_11 t256 (t256.length : Int) x21_1 false ((rd_T28 t256 x21_1).f0) ((rd_T28 t256 x21_1).f1) ((rd_T28 t256 x21_1).f2)))) = some r := H
                            have A88 := Aside0.mk A880
                            clear A880
                            have HC89 := Aside0.mk H
                            clear H
                            have hcz90_0 : wc.cell? ⟨gb263, 0, none⟩ = some (.int .i64 ((rd_T28 t256 x21_1).f0)) := (blk_cell BK263.out 0).trans rfl
                            have hcz90_1 : wc.cell? ⟨gb263, 1, none⟩ = some (.int .i64 ((rd_T28 t256 x21_1).f1)) := (blk_cell BK263.out 1).trans rfl
                            have hcz90_2 : wc.cell? ⟨gb263, 2, none⟩ = some (.int .i64 ((rd_T28 t256 x21_1).f2)) := (blk_cell BK263.out 2).trans rfl
                            have hfz90_0 := blk_frozen BK263.out 0
                            have hfz90_1 := blk_frozen BK263.out 1
                            have hfz90_2 := blk_frozen BK263.out 2
                            obtain ⟨Ao91, co91, eo91⟩ := Kd.R_slice HO_3.out
                            subst eo91
                            go_upto_region 28 with (first | ((with_reducible refine gate_callee (f := 15) rfl ?_); refine goesL_ (some 131) rfl rfl Try.func15 (by kernel_rfl) rfl #[.slice Ao91 x3_11.length co91, .int .i64 ((rd_T28 t256 x21_1).f1)] rfl (by (try simp only [List.map_toArray, List.map_cons, List.map_nil]); first | done | rfl | (simp only [List.length_drop, List.length_take]; rfl)) ?_; (with_reducible refine (spec_Next.calls kj71 _ _ x3_11 ((rd_T28 t256 x21_1).f1) t293 _ ?side1 ?side2 A86.out).mono ?_); (case side1 => repeat (first | exact (Kd.R_reads' HO_3.out).2.2 | (with_reducible refine Kd.C_alloc ?_ _) | (with_reducible refine Kd.C_drewN ?_ _) | (with_reducible refine Kd.C_drew ?_))); (case side2 => exact (Kd.R_reads' HO_3.out).2.1); rintro e w' ⟨rfl, ⟨nd, rfl⟩⟩; refine ⟨_, rfl, ?_⟩; obtain ⟨Ao92, co92, eo92⟩ := Kd.R_slice HO_4.out; subst eo92) | ((with_reducible refine gate_callee (f := 16) rfl ?_); refine goesL_ (some 140) rfl rfl Try.func16 (by kernel_rfl) rfl #[.slice Ao92 x4_11.length co92, .int .u64 (IntKind.u64.wrap (((rd_T28 t256 x21_1).f1)))] rfl (by (try simp only [List.map_toArray, List.map_cons, List.map_nil]); first | done | rfl | (simp only [List.length_drop, List.length_take]; rfl)) ?_; (with_reducible refine (impl_FindAddrGreaterEqual.calls kj71 _ _ x4_11 (IntKind.u64.wrap (((rd_T28 t256 x21_1).f1))) t294 t295 _ ?side1 ?side2 A88.out).mono ?_); (case side1 => repeat (first | exact (Kd.R_reads' HO_4.out).2.2 | (with_reducible refine Kd.C_alloc ?_ _) | (with_reducible refine Kd.C_drewN ?_ _) | (with_reducible refine Kd.C_drew ?_))); (case side2 => exact (Kd.R_reads' HO_4.out).2.1); rintro e w93 ⟨rfl, hb⟩; refine ⟨_, rfl, ?_⟩; have n0_ := Aside0.mk (Kd.R_below (by (with_reducible repeat (first | apply Kd.R_alloc | apply Kd.R_drewN | apply Kd.R_drew)); exact HO_3.out) hb); have n1_ := Aside0.mk (Kd.R_below (by (with_reducible repeat (first | apply Kd.R_alloc | apply Kd.R_drewN | apply Kd.R_drew)); exact HO_4.out) hb); have n2_ := Aside0.mk (Kd.R_below (by (with_reducible repeat (first | apply Kd.R_alloc | apply Kd.R_drewN | apply Kd.R_drew)); exact HO_19.out) hb); have n3_ := Aside0.mk (blk_below (g := gb263) (o := .cells #[.int .i64 ((rd_T28 t256 x21_1).f0), .int .i64 ((rd_T28 t256 x21_1).f1), .int .i64 ((rd_T28 t256 x21_1).f2)] 28 (0, 0)) (by (with_reducible repeat (first | refine blk_drewN ?_ _ | refine blk_drew ?_ | refine blk_alloc ?_ _)); exact BK263.out) hb); have n4_ := Aside0.mk (below_step (by repeat (first | (with_reducible first | exact HB.out | apply below_alloc | apply pw_below_drewN | apply below_drew1 | refine below_set ?_ GE263.out) | exact HB.out)) hb); clear HO_3; clear HO_4; clear HO_19; clear BK263; clear HB; have HO_3 := n0_; have HO_4 := n1_; have HO_19 := n2_; have BK263 := n3_; have HB := n4_; clear n0_ n1_ n2_ n3_ n4_; (try clear hb); (try clear hb2); (try clear hk); (try clear hi)))
                            (try simp only [Act.put, List.setIfInBounds_toArray, List.set_cons_zero, List.set_cons_succ])
                            go_cut [155] (fun v155 wc => ∃ (kq : Nat) (x155_88 : Bool), v155 = .bool x155_88 ∧ Aside0 (laws_FnScriptWhole.j5 kq x3_11 x4_11 t256 (t256.length : Int) x21_1 x155_88 ((rd_T28 t256 x21_1).f0) ((rd_T28 t256 x21_1).f1) ((rd_T28 t256 x21_1).f2) = some r) ∧ Aside0 (kq ≤ kj71) ∧ Aside0 (Kd.R Kd.bool 4 wc w.heap.size (fun _ => True) (.slice Ao91 x3_11.length co91) x3_11) ∧ Aside0 (Kd.R k35 35 wc w.heap.size (fun _ => True) (.slice Ao92 x4_11.length co92) x4_11) ∧ Aside0 (Kd.R k28 28 wc w.heap.size (fun k_ => k_ ≠ gb263) (.slice (some ad262) t256.length co8) t256) ∧ Aside0 (wc.heap[gb263]? = some (.cells #[.int .i64 ((rd_T28 t256 x21_1).f0), .int .i64 ((rd_T28 t256 x21_1).f1), .int .i64 ((rd_T28 t256 x21_1).f2)] 28 (0, 0))) ∧ Aside0 (Below w.heap.size w wc))
                            case first =>
                              as_aux_lemma =>
                              have H := HC89.out
                              clear HC89
                              by_cases c94 : (t295 != (decide (t293 ≥ 0))) = true
                              · as_aux_lemma =>
                                rw [if_pos c94] at H
                                have c94b0 : (t295 != (decide (t293 ≥ 0))) = true := c94
                                (try (have c94b1 : decide (t295 = (decide (t293 ≥ 0))) = false := by simpa using c94))
                                (try (have c94b2 : (t295 == (decide (t293 ≥ 0))) = false := by simpa using c94))
                                (try (have c94b3 : ¬ (t295 = (decide (t293 ≥ 0))) := by simpa using c94))
                                clear c94
                                (first | rw [c94b0] | (simp only [i64_w, i32_w]; rw [c94b0]) | skip)
                                have H' := Aside0.mk H
                                clear H
                                go_wp2
                                go_meet
                                case rel => exact ⟨_, (true), (by first | rfl | (simp; done) | (simp [*]; done)), H', ⟨by have := HK1.out; have := HJ11.out; have := HJ71.out; first | omega | exact Nat.le_refl _⟩, ⟨by (with_reducible repeat (first | apply Kd.R_alloc | apply Kd.R_drewN | apply Kd.R_drew)); exact HO_3.out⟩, ⟨by (with_reducible repeat (first | apply Kd.R_alloc | apply Kd.R_drewN | apply Kd.R_drew)); exact HO_4.out⟩, ⟨by (with_reducible repeat (first | apply Kd.R_alloc | apply Kd.R_drewN | apply Kd.R_drew)); exact HO_19.out⟩, ⟨by (with_reducible repeat (first | refine blk_drewN ?_ _ | refine blk_drew ?_ | refine blk_alloc ?_ _)); exact BK263.out⟩, ⟨by repeat (first | (with_reducible first | exact HB.out | apply below_alloc | apply pw_below_drewN | apply below_drew1 | refine below_set ?_ GE263.out) | exact HB.out)⟩⟩
                              · as_aux_lemma =>
                                rw [if_neg c94] at H
                                have c94b0 : (t295 != (decide (t293 ≥ 0))) = false := by simpa using c94
                                (try (have c94b1 : decide (t295 = (decide (t293 ≥ 0))) = true := by simpa using c94))
                                (try (have c94b2 : (t295 == (decide (t293 ≥ 0))) = true := by simpa using c94))
                                clear c94
                                (first | rw [c94b0] | (simp only [i64_w, i32_w]; rw [c94b0]) | skip)
                                by_cases c95 : t295 = true
                                · as_aux_lemma =>
                                  subst c95
                                  have H1 : (laws_FnScriptWhole.j5 kj71 x3_11 x4_11 t256 (t256.length : Int) x21_1 (t294 != (IntKind.u64.wrap (t293))) ((rd_T28 t256 x21_1).f0) ((rd_T28 t256 x21_1).f1) ((rd_T28 t256 x21_1).f2)) = some r := by rw [if_pos rfl] at H; exact H
                                  clear H
                                  have H := H1
                                  clear H1
                                  have H' := Aside0.mk H
                                  clear H
                                  go_wp2
                                  go_meet
                                  case rel => exact ⟨_, ((t294 != (IntKind.u64.wrap (t293)))), (by first | rfl | (simp; done) | (simp [*]; done)), H', ⟨by have := HK1.out; have := HJ11.out; have := HJ71.out; first | omega | exact Nat.le_refl _⟩, ⟨by (with_reducible repeat (first | apply Kd.R_alloc | apply Kd.R_drewN | apply Kd.R_drew)); exact HO_3.out⟩, ⟨by (with_reducible repeat (first | apply Kd.R_alloc | apply Kd.R_drewN | apply Kd.R_drew)); exact HO_4.out⟩, ⟨by (with_reducible repeat (first | apply Kd.R_alloc | apply Kd.R_drewN | apply Kd.R_drew)); exact HO_19.out⟩, ⟨by (with_reducible repeat (first | refine blk_drewN ?_ _ | refine blk_drew ?_ | refine blk_alloc ?_ _)); exact BK263.out⟩, ⟨by repeat (first | (with_reducible first | exact HB.out | apply below_alloc | apply pw_below_drewN | apply below_drew1 | refine below_set ?_ GE263.out) | exact HB.out)⟩⟩
                                · as_aux_lemma =>
                                  replace c95 := Bool.eq_false_iff.mpr c95
                                  subst c95
                                  have H1 : (laws_FnScriptWhole.j5 kj71 x3_11 x4_11 t256 (t256.length : Int) x21_1 false ((rd_T28 t256 x21_1).f0) ((rd_T28 t256 x21_1).f1) ((rd_T28 t256 x21_1).f2)) = some r := by rw [if_neg (show ¬ (false = true) by decide)] at H; exact H
                                  clear H
                                  have H := H1
                                  clear H1
                                  have H' := Aside0.mk H
                                  clear H
                                  go_wp2
                                  go_meet
                                  case rel => exact ⟨_, (false), (by first | rfl | (simp; done) | (simp [*]; done)), H', ⟨by have := HK1.out; have := HJ11.out; have := HJ71.out; first | omega | exact Nat.le_refl _⟩, ⟨by (with_reducible repeat (first | apply Kd.R_alloc | apply Kd.R_drewN | apply Kd.R_drew)); exact HO_3.out⟩, ⟨by (with_reducible repeat (first | apply Kd.R_alloc | apply Kd.R_drewN | apply Kd.R_drew)); exact HO_4.out⟩, ⟨by (with_reducible repeat (first | apply Kd.R_alloc | apply Kd.R_drewN | apply Kd.R_drew)); exact HO_19.out⟩, ⟨by (with_reducible repeat (first | refine blk_drewN ?_ _ | refine blk_drew ?_ | refine blk_alloc ?_ _)); exact BK263.out⟩, ⟨by repeat (first | (with_reducible first | exact HB.out | apply below_alloc | apply pw_below_drewN | apply below_drew1 | refine below_set ?_ GE263.out) | exact HB.out)⟩⟩
                            case rest =>
                              as_aux_lemma =>
                              clear HC89
                              try clear c1
                              try clear c2
                              try clear c2b0
                              try clear c2b1
                              try clear p2
                              try clear q2
                              try clear hx2
                              try clear c3
                              try clear c3b0
                              try clear c3b1
                              try clear c4
                              try clear c5
                              try clear c6
                              try clear p6
                              try clear c7
                              try clear c8
                              try clear c9
                              try clear c9b0
                              try clear c10
                              try clear c10b0
                              try clear c11
                              try clear c11b0
                              try clear c12
                              try clear c13
                              try clear c14
                              try clear c15
                              try clear c16
                              try clear c16b0
                              try clear c16b1
                              try clear c21
                              try clear p26
                              try clear q26
                              try clear hx26
                              try clear c32
                              try clear c32b0
                              try clear c32b1
                              try clear c43
                              try clear c43b0
                              try clear c43b1
                              try clear c47
                              try clear c51
                              try clear c51b0
                              try clear c56
                              try clear p64
                              try clear c65
                              try clear c75
                              try clear c85
                              try clear c87
                              try clear c87b0
                              try clear c87b1
                              try clear c94
                              try clear c94b0
                              try clear c94b1
                              try clear c94b2
                              try clear c95
                              try clear hcz14_0
                              try clear hcz14_1
                              try clear hcz14_2
                              try clear hcz18_0
                              try clear hcz18_1
                              try clear hcz18_2
                              try clear hcz20_0
                              try clear hcz20_1
                              try clear hcz20_2
                              try clear hcz25_0
                              try clear hcz25_1
                              try clear hcz25_2
                              try clear hcz28_0
                              try clear hcz28_1
                              try clear hcz28_2
                              try clear hcz35_0
                              try clear hcz35_1
                              try clear hcz35_2
                              try clear hcz38_0
                              try clear hcz38_1
                              try clear hcz38_2
                              try clear hcz42_0
                              try clear hcz42_1
                              try clear hcz42_2
                              try clear hcz44_0
                              try clear hcz44_1
                              try clear hcz44_2
                              try clear hcz46_0
                              try clear hcz46_1
                              try clear hcz46_2
                              try clear hcz52_0
                              try clear hcz52_1
                              try clear hcz52_2
                              try clear hcz57_0
                              try clear hcz57_1
                              try clear hcz57_2
                              try clear hcz60_0
                              try clear hcz60_1
                              try clear hcz61_0
                              try clear hcz61_1
                              try clear hcz61_2
                              try clear hcz66_0
                              try clear hcz66_1
                              try clear hcz66_2
                              try clear hcz69_0
                              try clear hcz69_1
                              try clear hcz90_0
                              try clear hcz90_1
                              try clear hcz90_2
                              try clear hfz14_0
                              try clear hfz14_1
                              try clear hfz14_2
                              try clear hfz18_0
                              try clear hfz18_1
                              try clear hfz18_2
                              try clear hfz20_0
                              try clear hfz20_1
                              try clear hfz20_2
                              try clear hfz25_0
                              try clear hfz25_1
                              try clear hfz25_2
                              try clear hfz28_0
                              try clear hfz28_1
                              try clear hfz28_2
                              try clear hfz35_0
                              try clear hfz35_1
                              try clear hfz35_2
                              try clear hfz38_0
                              try clear hfz38_1
                              try clear hfz38_2
                              try clear hfz42_0
                              try clear hfz42_1
                              try clear hfz42_2
                              try clear hfz44_0
                              try clear hfz44_1
                              try clear hfz44_2
                              try clear hfz46_0
                              try clear hfz46_1
                              try clear hfz46_2
                              try clear hfz52_0
                              try clear hfz52_1
                              try clear hfz52_2
                              try clear hfz57_0
                              try clear hfz57_1
                              try clear hfz57_2
                              try clear hfz60_0
                              try clear hfz60_1
                              try clear hfz61_0
                              try clear hfz61_1
                              try clear hfz61_2
                              try clear hfz66_0
                              try clear hfz66_1
                              try clear hfz66_2
                              try clear hfz69_0
                              try clear hfz69_1
                              try clear hfz90_0
                              try clear hfz90_1
                              try clear hfz90_2
                              try clear hx262_0
                              try clear hx262_1
                              try clear hx262_2
                              try clear p2
                              try clear p26
                              try clear p262
                              try clear p6
                              try clear p64
                              try clear q2
                              try clear q26
                              try clear q262
                              obtain ⟨kq, x155_88, rfl, HA, HJ88, HO_3, HO_4, HO_19, BK263, HB⟩ := hcut
                              cases kq with
                              | zero => exact absurd HA.out (by simp [laws_FnScriptWhole.j5])
                              | succ kj88 =>
                                have H := HA.out
                                clear HA
                                simp only [laws_FnScriptWhole.j5] at H
                                by_cases c96 : x155_88 = true
                                · as_aux_lemma =>
                                  subst c96
                                  have H1 : (some false) = some r := by rw [if_pos rfl] at H; exact H
                                  clear H
                                  have H := H1
                                  clear H1
                                  obtain rfl := Option.some.inj H
                                  go_wp2
                                  go_ret
                                  exact ⟨by first | rfl | (simp [errW_none, errW_some] <;> rfl) | (simp [*, errW_none, errW_some] <;> rfl), by repeat (first | (with_reducible first | exact HB.out | apply below_alloc | apply pw_below_drewN | apply below_drew1 | refine below_set ?_ GE263.out) | exact HB.out)⟩
                                · as_aux_lemma =>
                                  replace c96 := Bool.eq_false_iff.mpr c96
                                  subst c96
                                  have H1 : ((impl_InList.f kj88 x4_11 (IntKind.u64.wrap (((rd_T28 t256 x21_1).f1)))).bind fun t296 => (if 0 ≤ ((rd_T28 t256 x21_1).f1) then (if ((rd_T28 t256 x21_1).f1) < (x3_11.length : Int) then (if (t296 != (rdOf false x3_11 ((rd_T28 t256 x21_1).f1))) = true then (some false) else (laws_FnScriptWhole.l0 kj88 x3_11 x4_11 t256 (t256.length : Int) (wrap64 (x21_1 + 1)))) else (none)) else (none))) = some r := by rw [if_neg (show ¬ (false = true) by decide)] at H; exact H
                                  clear H
                                  have H := H1
                                  clear H1
                                  replace H := Option.bind_eq_some_iff.mp H
                                  obtain ⟨t296, A970, H⟩ := H
                                  replace H : (if 0 ≤ ((rd_T28 t256 x21_1).f1) then (if ((rd_T28 t256 x21_1).f1) < (x3_11.length : Int) then (if (t296 != (rdOf false x3_11 ((rd_T28 t256 x21_1).f1))) = true then (some false) else (laws_FnScriptWhole.l0 kj88 x3_11 x4_11 t256 (t256.length : Int) (wrap64 (x21_1 + 1)))) else (none)) else (none)) = some r := H
                                  have A97 := Aside0.mk A970
                                  clear A970
                                  by_cases c98 : 0 ≤ ((rd_T28 t256 x21_1).f1)
                                  · as_aux_lemma =>
                                    rw [if_pos c98] at H
                                    have c98b0 : decide (0 ≤ ((rd_T28 t256 x21_1).f1)) = true := decide_eq_true c98
                                    clear c98
                                    by_cases c99 : ((rd_T28 t256 x21_1).f1) < (x3_11.length : Int)
                                    · as_aux_lemma =>
                                      rw [if_pos c99] at H
                                      have c99b0 : decide (((rd_T28 t256 x21_1).f1) < (x3_11.length : Int)) = true := decide_eq_true c99
                                      clear c99
                                      by_cases c100 : (t296 != (rdOf false x3_11 ((rd_T28 t256 x21_1).f1))) = true
                                      · as_aux_lemma =>
                                        rw [if_pos c100] at H
                                        have c100b0 : (t296 != (rdOf false x3_11 ((rd_T28 t256 x21_1).f1))) = true := c100
                                        (try (have c100b1 : decide (t296 = (rdOf false x3_11 ((rd_T28 t256 x21_1).f1))) = false := by simpa using c100))
                                        (try (have c100b2 : (t296 == (rdOf false x3_11 ((rd_T28 t256 x21_1).f1))) = false := by simpa using c100))
                                        (try (have c100b3 : ¬ (t296 = (rdOf false x3_11 ((rd_T28 t256 x21_1).f1))) := by simpa using c100))
                                        clear c100
                                        obtain rfl := Option.some.inj H
                                        try go_wp2
                                        have n0_ := Aside0.mk (Kd.R_drew HO_3.out)
                                        have n1_ := Aside0.mk (Kd.R_drew HO_4.out)
                                        have n2_ := Aside0.mk (Kd.R_drew HO_19.out)
                                        have n3_ := Aside0.mk (blk_drew BK263.out)
                                        have n4_ := Aside0.mk (below_drew1 HB.out)
                                        clear HO_3
                                        clear HO_4
                                        clear HO_19
                                        clear BK263
                                        clear HB
                                        have HO_3 := n0_
                                        have HO_4 := n1_
                                        have HO_19 := n2_
                                        have BK263 := n3_
                                        have HB := n4_
                                        clear n0_ n1_ n2_ n3_ n4_
                                        have p297 : 0 ≤ (((rd_T28 t256 x21_1).f1) : Int) := of_decide_eq_true (by first | (with_reducible assumption) | assumption)
                                        have q297 : ((rd_T28 t256 x21_1).f1) < (x3_11.length : Int) := of_decide_eq_true (by first | (with_reducible assumption) | assumption)
                                        obtain ⟨ad297, e297, hx297_0⟩ := Kd.at_bool (Kd.R_reads' HO_3.out).2.2 ((rd_T28 t256 x21_1).f1) p297 q297
                                        cases e297
                                        replace p297 := eq_true p297
                                        replace q297 := eq_true q297
                                        refine start_ (n := 11) (S := fun w' => w'.cell? ⟨gb263, 0, none⟩ = some (.int .i64 ((rd_T28 t256 x21_1).f0)) ∧ w'.cell? ⟨gb263, 1, none⟩ = some (.int .i64 ((rd_T28 t256 x21_1).f1)) ∧ w'.cell? ⟨gb263, 2, none⟩ = some (.int .i64 ((rd_T28 t256 x21_1).f2)) ∧ w'.cell? (ad297.add (((rd_T28 t256 x21_1).f1)).toNat) = some (.bool (rdOf false x3_11 ((rd_T28 t256 x21_1).f1)))) (ds := []) #[false, false, false, false, false, false, false, false, false, false, false] (by kernel_rfl) rfl rfl ⟨(blk_cell BK263.out 0).trans rfl, (blk_cell BK263.out 1).trans rfl, (blk_cell BK263.out 2).trans rfl, hx297_0⟩ (fun hHeld => ?_); refine with_tabW laws_FnScriptWhole.tab30 laws_FnScriptWhole.bits30 (fun HT_ HW_ => ?_)
                                        generalize wc.drew = w101 at HO_3 HO_4 HO_19 BK263 HB hx297_0 hHeld ⊢
                                        refine pure_ (i := 0) (N := some 156) (v := ?_) (a' := ?_) #[true, false, false, false, false, false, false, false, false, false, false] rfl rfl (any_of HT_.out (by kernel_rfl)) (fun _ _ _ h => h) (Or.inl ⟨by rfl, ?_⟩) ?_ ?_
                                        rotate_left
                                        · intro w'
                                          go_simp
                                          with_reducible rfl
                                        rotate_left
                                        · simp only [Act.put, List.setIfInBounds_toArray, List.set_cons_zero, List.set_cons_succ, i64_w, i32_w]
                                          rfl
                                        refine pure_ (i := 1) (N := some 157) (v := ?_) (a' := ?_) #[true, true, false, false, false, false, false, false, false, false, false] rfl rfl (any_of HT_.out (by kernel_rfl)) (fun _ _ _ h => h) (Or.inl ⟨by rfl, ?_⟩) ?_ ?_
                                        rotate_left
                                        · intro w'
                                          go_simp
                                          with_reducible rfl
                                        rotate_left
                                        · simp only [Act.put, List.setIfInBounds_toArray, List.set_cons_zero, List.set_cons_succ, i64_w, i32_w]
                                          rfl
                                        refine pure_ (i := 5) (N := some 161) (v := ?_) (a' := ?_) #[true, true, false, false, false, true, false, false, false, false, false] rfl rfl (any_of HT_.out (by kernel_rfl)) (fun _ _ _ h => h) (Or.inl ⟨by rfl, ?_⟩) ?_ ?_
                                        rotate_left
                                        · intro w'
                                          go_simp
                                          with_reducible rfl
                                        rotate_left
                                        · simp only [Act.put, List.setIfInBounds_toArray, List.set_cons_zero, List.set_cons_succ, i64_w, i32_w]
                                          rfl
                                        refine pure_ (i := 6) (N := some 162) (v := ?_) (a' := ?_) #[true, true, false, false, false, true, true, false, false, false, false] rfl rfl (any_of HT_.out (by kernel_rfl)) (fun _ _ _ h => h) (Or.inl ⟨by rfl, ?_⟩) ?_ ?_
                                        rotate_left
                                        · intro w'
                                          go_simp
                                          with_reducible rfl
                                        rotate_left
                                        · simp only [Act.put, List.setIfInBounds_toArray, List.set_cons_zero, List.set_cons_succ, i64_w, i32_w]
                                          rfl
                                        refine take_ (i := 2) (N := some 158) (v := ?_) (a' := ?_) #[true, true, true, false, false, true, true, false, false, false, false] rfl rfl (take_ofW HT_.out HW_.out (by kernel_rfl)) (fun _ _ _ h => h) (Or.inl ⟨by rfl, ?_⟩) hHeld ?_ ?_
                                        rotate_left
                                        · rintro w' ⟨s0, s1, s2, s3⟩
                                          go_simp
                                          with_reducible rfl
                                        rotate_left
                                        · simp only [Act.put, List.setIfInBounds_toArray, List.set_cons_zero, List.set_cons_succ, i64_w, i32_w]
                                          rfl
                                        refine pure_ (i := 3) (N := some 159) (v := ?_) (a' := ?_) #[true, true, true, true, false, true, true, false, false, false, false] rfl rfl (any_of HT_.out (by kernel_rfl)) (fun _ _ _ h => h) (Or.inl ⟨by rfl, ?_⟩) ?_ ?_
                                        rotate_left
                                        · intro w'
                                          go_simp
                                          with_reducible rfl
                                        rotate_left
                                        · simp only [Act.put, List.setIfInBounds_toArray, List.set_cons_zero, List.set_cons_succ, i64_w, i32_w]
                                          rfl
                                        refine take_ (i := 7) (N := some 163) (v := ?_) (a' := ?_) #[true, true, true, true, false, true, true, true, false, false, false] rfl rfl (take_ofW HT_.out HW_.out (by kernel_rfl)) (fun _ _ _ h => h) (Or.inl ⟨by rfl, ?_⟩) hHeld ?_ ?_
                                        rotate_left
                                        · rintro w' ⟨s0, s1, s2, s3⟩
                                          go_simp
                                          with_reducible rfl
                                        rotate_left
                                        · simp only [Act.put, List.setIfInBounds_toArray, List.set_cons_zero, List.set_cons_succ, i64_w, i32_w]
                                          rfl
                                        refine pure_ (i := 8) (N := some 164) (v := ?_) (a' := ?_) #[true, true, true, true, false, true, true, true, true, false, false] rfl rfl (any_of HT_.out (by kernel_rfl)) (fun _ _ _ h => h) (Or.inl ⟨by rfl, ?_⟩) ?_ ?_
                                        rotate_left
                                        · intro w'
                                          go_simp
                                          with_reducible rfl
                                        rotate_left
                                        · simp only [Act.put, List.setIfInBounds_toArray, List.set_cons_zero, List.set_cons_succ, i64_w, i32_w]
                                          rfl
                                        refine take_ (i := 9) (N := some 165) (v := ?_) (a' := ?_) #[true, true, true, true, false, true, true, true, true, true, false] rfl rfl (take_ofW HT_.out HW_.out (by kernel_rfl)) (fun _ _ _ h => h) (Or.inl ⟨by rfl, ?_⟩) hHeld ?_ ?_
                                        rotate_left
                                        · rintro w' ⟨s0, s1, s2, s3⟩
                                          go_simp
                                          with_reducible rfl
                                        rotate_left
                                        · simp only [Act.put, List.setIfInBounds_toArray, List.set_cons_zero, List.set_cons_succ, i64_w, i32_w]
                                          rfl
                                        refine one_ (i := 4) (N := some 160) #[true, true, true, true, true, true, true, true, true, true, false] rfl rfl (one_of HT_.out (by kernel_rfl)) (by decide) (fun K hK => ?_)
                                        refine goes_ Try.func17 (by kernel_rfl) rfl #[.slice Ao92 x4_11.length co92, .int .u64 (IntKind.u64.wrap (((rd_T28 t256 x21_1).f1)))] (by rfl) rfl rfl (by (try simp only [List.map_toArray, List.map_cons, List.map_nil]); first | done | rfl | (simp only [List.length_drop, List.length_take]; rfl)) ?_
                                        with_reducible refine (impl_InList.calls kj88 _ _ x4_11 (IntKind.u64.wrap (((rd_T28 t256 x21_1).f1))) t296 _ ?side1 ?side2 A97.out).mono ?_
                                        (case side1 => repeat (first | exact (Kd.R_reads' HO_4.out).2.2 | (with_reducible refine Kd.C_alloc ?_ _) | (with_reducible refine Kd.C_drewN ?_ _) | (with_reducible refine Kd.C_drew ?_)))
                                        (case side2 => exact (Kd.R_reads' HO_4.out).2.1)
                                        rintro e w102 ⟨rfl, hb⟩
                                        have HS3_ := (hb.cell (World.block_lt_of_cell? _ _ (hHeld.2.2.2))).trans (hHeld.2.2.2)
                                        refine ⟨_, rfl, ?_⟩
                                        have n0_ := Aside0.mk (Kd.R_below (by (with_reducible repeat (first | apply Kd.R_alloc | apply Kd.R_drewN | apply Kd.R_drew)); exact HO_3.out) hb)
                                        have n1_ := Aside0.mk (Kd.R_below (by (with_reducible repeat (first | apply Kd.R_alloc | apply Kd.R_drewN | apply Kd.R_drew)); exact HO_4.out) hb)
                                        have n2_ := Aside0.mk (Kd.R_below (by (with_reducible repeat (first | apply Kd.R_alloc | apply Kd.R_drewN | apply Kd.R_drew)); exact HO_19.out) hb)
                                        have n3_ := Aside0.mk (blk_below (g := gb263) (o := .cells #[.int .i64 ((rd_T28 t256 x21_1).f0), .int .i64 ((rd_T28 t256 x21_1).f1), .int .i64 ((rd_T28 t256 x21_1).f2)] 28 (0, 0)) (by (with_reducible repeat (first | refine blk_drewN ?_ _ | refine blk_drew ?_ | refine blk_alloc ?_ _)); exact BK263.out) hb)
                                        have n4_ := Aside0.mk (below_step (by repeat (first | (with_reducible first | exact HB.out | apply below_alloc | apply pw_below_drewN | apply below_drew1 | refine below_set ?_ GE263.out) | exact HB.out)) hb)
                                        clear HO_3
                                        clear HO_4
                                        clear HO_19
                                        clear BK263
                                        clear HB
                                        have HO_3 := n0_
                                        have HO_4 := n1_
                                        have HO_19 := n2_
                                        have BK263 := n3_
                                        have HB := n4_
                                        clear n0_ n1_ n2_ n3_ n4_
                                        (try clear hb)
                                        (try clear hb2)
                                        (try clear hk)
                                        (try clear hi)
                                        refine hK.out _ _ ⟨(blk_cell BK263.out 0).trans rfl, (blk_cell BK263.out 1).trans rfl, (blk_cell BK263.out 2).trans rfl, HS3_⟩ (fun hHeld => ?_)
                                        clear hK K
                                        refine norm_ (a' := ?_) ?_ ?_
                                        rotate_left
                                        · show Act.put _ (some 160) _ = _
                                          simp only [Act.put, List.setIfInBounds_toArray, List.set_cons_zero, List.set_cons_succ, i64_w, i32_w]
                                          rfl
                                        refine pure_ (i := 10) (N := some 166) (v := ?_) (a' := ?_) #[true, true, true, true, true, true, true, true, true, true, true] rfl rfl (any_of HT_.out (by kernel_rfl)) (fun _ _ _ h => h) (Or.inl ⟨by rfl, ?_⟩) ?_ ?_
                                        rotate_left
                                        · intro w'
                                          go_simp
                                          with_reducible rfl
                                        rotate_left
                                        · simp only [Act.put, List.setIfInBounds_toArray, List.set_cons_zero, List.set_cons_succ, i64_w, i32_w]
                                          rfl
                                        refine done_ (done_of HT_.out (by kernel_rfl)) ?_
                                        try go_wp2
                                        go_ret
                                        exact ⟨by first | rfl | (simp [errW_none, errW_some] <;> rfl) | (simp [*, errW_none, errW_some] <;> rfl), by repeat (first | (with_reducible first | exact HB.out | apply below_alloc | apply pw_below_drewN | apply below_drew1 | refine below_set ?_ GE263.out) | exact HB.out)⟩
                                      · as_aux_lemma =>
                                        rw [if_neg c100] at H
                                        have c100b0 : (t296 != (rdOf false x3_11 ((rd_T28 t256 x21_1).f1))) = false := by simpa using c100
                                        (try (have c100b1 : decide (t296 = (rdOf false x3_11 ((rd_T28 t256 x21_1).f1))) = true := by simpa using c100))
                                        (try (have c100b2 : (t296 == (rdOf false x3_11 ((rd_T28 t256 x21_1).f1))) = true := by simpa using c100))
                                        clear c100
                                        have H' := Aside0.mk H
                                        clear H
                                        try go_wp2
                                        have n0_ := Aside0.mk (Kd.R_drew HO_3.out)
                                        have n1_ := Aside0.mk (Kd.R_drew HO_4.out)
                                        have n2_ := Aside0.mk (Kd.R_drew HO_19.out)
                                        have n3_ := Aside0.mk (blk_drew BK263.out)
                                        have n4_ := Aside0.mk (below_drew1 HB.out)
                                        clear HO_3
                                        clear HO_4
                                        clear HO_19
                                        clear BK263
                                        clear HB
                                        have HO_3 := n0_
                                        have HO_4 := n1_
                                        have HO_19 := n2_
                                        have BK263 := n3_
                                        have HB := n4_
                                        clear n0_ n1_ n2_ n3_ n4_
                                        have p297 : 0 ≤ (((rd_T28 t256 x21_1).f1) : Int) := of_decide_eq_true (by first | (with_reducible assumption) | assumption)
                                        have q297 : ((rd_T28 t256 x21_1).f1) < (x3_11.length : Int) := of_decide_eq_true (by first | (with_reducible assumption) | assumption)
                                        obtain ⟨ad297, e297, hx297_0⟩ := Kd.at_bool (Kd.R_reads' HO_3.out).2.2 ((rd_T28 t256 x21_1).f1) p297 q297
                                        cases e297
                                        replace p297 := eq_true p297
                                        replace q297 := eq_true q297
                                        refine start_ (n := 11) (S := fun w' => w'.cell? ⟨gb263, 0, none⟩ = some (.int .i64 ((rd_T28 t256 x21_1).f0)) ∧ w'.cell? ⟨gb263, 1, none⟩ = some (.int .i64 ((rd_T28 t256 x21_1).f1)) ∧ w'.cell? ⟨gb263, 2, none⟩ = some (.int .i64 ((rd_T28 t256 x21_1).f2)) ∧ w'.cell? (ad297.add (((rd_T28 t256 x21_1).f1)).toNat) = some (.bool (rdOf false x3_11 ((rd_T28 t256 x21_1).f1)))) (ds := []) #[false, false, false, false, false, false, false, false, false, false, false] (by kernel_rfl) rfl rfl ⟨(blk_cell BK263.out 0).trans rfl, (blk_cell BK263.out 1).trans rfl, (blk_cell BK263.out 2).trans rfl, hx297_0⟩ (fun hHeld => ?_); refine with_tabW laws_FnScriptWhole.tab30 laws_FnScriptWhole.bits30 (fun HT_ HW_ => ?_)
                                        generalize wc.drew = w103 at HO_3 HO_4 HO_19 BK263 HB hx297_0 hHeld ⊢
                                        refine pure_ (i := 0) (N := some 156) (v := ?_) (a' := ?_) #[true, false, false, false, false, false, false, false, false, false, false] rfl rfl (any_of HT_.out (by kernel_rfl)) (fun _ _ _ h => h) (Or.inl ⟨by rfl, ?_⟩) ?_ ?_
                                        rotate_left
                                        · intro w'
                                          go_simp
                                          with_reducible rfl
                                        rotate_left
                                        · simp only [Act.put, List.setIfInBounds_toArray, List.set_cons_zero, List.set_cons_succ, i64_w, i32_w]
                                          rfl
                                        refine pure_ (i := 1) (N := some 157) (v := ?_) (a' := ?_) #[true, true, false, false, false, false, false, false, false, false, false] rfl rfl (any_of HT_.out (by kernel_rfl)) (fun _ _ _ h => h) (Or.inl ⟨by rfl, ?_⟩) ?_ ?_
                                        rotate_left
                                        · intro w'
                                          go_simp
                                          with_reducible rfl
                                        rotate_left
                                        · simp only [Act.put, List.setIfInBounds_toArray, List.set_cons_zero, List.set_cons_succ, i64_w, i32_w]
                                          rfl
                                        refine pure_ (i := 5) (N := some 161) (v := ?_) (a' := ?_) #[true, true, false, false, false, true, false, false, false, false, false] rfl rfl (any_of HT_.out (by kernel_rfl)) (fun _ _ _ h => h) (Or.inl ⟨by rfl, ?_⟩) ?_ ?_
                                        rotate_left
                                        · intro w'
                                          go_simp
                                          with_reducible rfl
                                        rotate_left
                                        · simp only [Act.put, List.setIfInBounds_toArray, List.set_cons_zero, List.set_cons_succ, i64_w, i32_w]
                                          rfl
                                        refine pure_ (i := 6) (N := some 162) (v := ?_) (a' := ?_) #[true, true, false, false, false, true, true, false, false, false, false] rfl rfl (any_of HT_.out (by kernel_rfl)) (fun _ _ _ h => h) (Or.inl ⟨by rfl, ?_⟩) ?_ ?_
                                        rotate_left
                                        · intro w'
                                          go_simp
                                          with_reducible rfl
                                        rotate_left
                                        · simp only [Act.put, List.setIfInBounds_toArray, List.set_cons_zero, List.set_cons_succ, i64_w, i32_w]
                                          rfl
                                        refine take_ (i := 2) (N := some 158) (v := ?_) (a' := ?_) #[true, true, true, false, false, true, true, false, false, false, false] rfl rfl (take_ofW HT_.out HW_.out (by kernel_rfl)) (fun _ _ _ h => h) (Or.inl ⟨by rfl, ?_⟩) hHeld ?_ ?_
                                        rotate_left
                                        · rintro w' ⟨s0, s1, s2, s3⟩
                                          go_simp
                                          with_reducible rfl
                                        rotate_left
                                        · simp only [Act.put, List.setIfInBounds_toArray, List.set_cons_zero, List.set_cons_succ, i64_w, i32_w]
                                          rfl
                                        refine pure_ (i := 3) (N := some 159) (v := ?_) (a' := ?_) #[true, true, true, true, false, true, true, false, false, false, false] rfl rfl (any_of HT_.out (by kernel_rfl)) (fun _ _ _ h => h) (Or.inl ⟨by rfl, ?_⟩) ?_ ?_
                                        rotate_left
                                        · intro w'
                                          go_simp
                                          with_reducible rfl
                                        rotate_left
                                        · simp only [Act.put, List.setIfInBounds_toArray, List.set_cons_zero, List.set_cons_succ, i64_w, i32_w]
                                          rfl
                                        refine take_ (i := 7) (N := some 163) (v := ?_) (a' := ?_) #[true, true, true, true, false, true, true, true, false, false, false] rfl rfl (take_ofW HT_.out HW_.out (by kernel_rfl)) (fun _ _ _ h => h) (Or.inl ⟨by rfl, ?_⟩) hHeld ?_ ?_
                                        rotate_left
                                        · rintro w' ⟨s0, s1, s2, s3⟩
                                          go_simp
                                          with_reducible rfl
                                        rotate_left
                                        · simp only [Act.put, List.setIfInBounds_toArray, List.set_cons_zero, List.set_cons_succ, i64_w, i32_w]
                                          rfl
                                        refine pure_ (i := 8) (N := some 164) (v := ?_) (a' := ?_) #[true, true, true, true, false, true, true, true, true, false, false] rfl rfl (any_of HT_.out (by kernel_rfl)) (fun _ _ _ h => h) (Or.inl ⟨by rfl, ?_⟩) ?_ ?_
                                        rotate_left
                                        · intro w'
                                          go_simp
                                          with_reducible rfl
                                        rotate_left
                                        · simp only [Act.put, List.setIfInBounds_toArray, List.set_cons_zero, List.set_cons_succ, i64_w, i32_w]
                                          rfl
                                        refine take_ (i := 9) (N := some 165) (v := ?_) (a' := ?_) #[true, true, true, true, false, true, true, true, true, true, false] rfl rfl (take_ofW HT_.out HW_.out (by kernel_rfl)) (fun _ _ _ h => h) (Or.inl ⟨by rfl, ?_⟩) hHeld ?_ ?_
                                        rotate_left
                                        · rintro w' ⟨s0, s1, s2, s3⟩
                                          go_simp
                                          with_reducible rfl
                                        rotate_left
                                        · simp only [Act.put, List.setIfInBounds_toArray, List.set_cons_zero, List.set_cons_succ, i64_w, i32_w]
                                          rfl
                                        refine one_ (i := 4) (N := some 160) #[true, true, true, true, true, true, true, true, true, true, false] rfl rfl (one_of HT_.out (by kernel_rfl)) (by decide) (fun K hK => ?_)
                                        refine goes_ Try.func17 (by kernel_rfl) rfl #[.slice Ao92 x4_11.length co92, .int .u64 (IntKind.u64.wrap (((rd_T28 t256 x21_1).f1)))] (by rfl) rfl rfl (by (try simp only [List.map_toArray, List.map_cons, List.map_nil]); first | done | rfl | (simp only [List.length_drop, List.length_take]; rfl)) ?_
                                        with_reducible refine (impl_InList.calls kj88 _ _ x4_11 (IntKind.u64.wrap (((rd_T28 t256 x21_1).f1))) t296 _ ?side1 ?side2 A97.out).mono ?_
                                        (case side1 => repeat (first | exact (Kd.R_reads' HO_4.out).2.2 | (with_reducible refine Kd.C_alloc ?_ _) | (with_reducible refine Kd.C_drewN ?_ _) | (with_reducible refine Kd.C_drew ?_)))
                                        (case side2 => exact (Kd.R_reads' HO_4.out).2.1)
                                        rintro e w104 ⟨rfl, hb⟩
                                        have HS3_ := (hb.cell (World.block_lt_of_cell? _ _ (hHeld.2.2.2))).trans (hHeld.2.2.2)
                                        refine ⟨_, rfl, ?_⟩
                                        have n0_ := Aside0.mk (Kd.R_below (by (with_reducible repeat (first | apply Kd.R_alloc | apply Kd.R_drewN | apply Kd.R_drew)); exact HO_3.out) hb)
                                        have n1_ := Aside0.mk (Kd.R_below (by (with_reducible repeat (first | apply Kd.R_alloc | apply Kd.R_drewN | apply Kd.R_drew)); exact HO_4.out) hb)
                                        have n2_ := Aside0.mk (Kd.R_below (by (with_reducible repeat (first | apply Kd.R_alloc | apply Kd.R_drewN | apply Kd.R_drew)); exact HO_19.out) hb)
                                        have n3_ := Aside0.mk (blk_below (g := gb263) (o := .cells #[.int .i64 ((rd_T28 t256 x21_1).f0), .int .i64 ((rd_T28 t256 x21_1).f1), .int .i64 ((rd_T28 t256 x21_1).f2)] 28 (0, 0)) (by (with_reducible repeat (first | refine blk_drewN ?_ _ | refine blk_drew ?_ | refine blk_alloc ?_ _)); exact BK263.out) hb)
                                        have n4_ := Aside0.mk (below_step (by repeat (first | (with_reducible first | exact HB.out | apply below_alloc | apply pw_below_drewN | apply below_drew1 | refine below_set ?_ GE263.out) | exact HB.out)) hb)
                                        clear HO_3
                                        clear HO_4
                                        clear HO_19
                                        clear BK263
                                        clear HB
                                        have HO_3 := n0_
                                        have HO_4 := n1_
                                        have HO_19 := n2_
                                        have BK263 := n3_
                                        have HB := n4_
                                        clear n0_ n1_ n2_ n3_ n4_
                                        (try clear hb)
                                        (try clear hb2)
                                        (try clear hk)
                                        (try clear hi)
                                        refine hK.out _ _ ⟨(blk_cell BK263.out 0).trans rfl, (blk_cell BK263.out 1).trans rfl, (blk_cell BK263.out 2).trans rfl, HS3_⟩ (fun hHeld => ?_)
                                        clear hK K
                                        refine norm_ (a' := ?_) ?_ ?_
                                        rotate_left
                                        · show Act.put _ (some 160) _ = _
                                          simp only [Act.put, List.setIfInBounds_toArray, List.set_cons_zero, List.set_cons_succ, i64_w, i32_w]
                                          rfl
                                        refine pure_ (i := 10) (N := some 166) (v := ?_) (a' := ?_) #[true, true, true, true, true, true, true, true, true, true, true] rfl rfl (any_of HT_.out (by kernel_rfl)) (fun _ _ _ h => h) (Or.inl ⟨by rfl, ?_⟩) ?_ ?_
                                        rotate_left
                                        · intro w'
                                          go_simp
                                          with_reducible rfl
                                        rotate_left
                                        · simp only [Act.put, List.setIfInBounds_toArray, List.set_cons_zero, List.set_cons_succ, i64_w, i32_w]
                                          rfl
                                        refine done_ (done_of HT_.out (by kernel_rfl)) ?_
                                        try go_wp2
                                        go_roundg kj88
                                        case measure => have := HK1.out; have := HJ11.out; have := HJ71.out; have := HJ88.out; omega
                                        case rel => exact ⟨(x3_11), (x4_11), (wrap64 (x21_1 + 1)), (by first | rfl | (simp; done) | (simp [*]; done)), H', ⟨by have := HK1.out; have := HJ11.out; have := HJ71.out; have := HJ88.out; omega⟩, ⟨by (with_reducible repeat (first | apply Kd.R_alloc | apply Kd.R_drewN | apply Kd.R_drew)); exact HO_3.out⟩, ⟨by (with_reducible repeat (first | apply Kd.R_alloc | apply Kd.R_drewN | apply Kd.R_drew)); exact HO_4.out⟩, ⟨by (with_reducible repeat (first | apply Kd.R_alloc | apply Kd.R_drewN | apply Kd.R_drew)); exact Kd.R_mono HO_19.out (fun _ hk => trivial)⟩, ⟨by repeat (first | (with_reducible first | exact HB.out | apply below_alloc | apply pw_below_drewN | apply below_drew1 | refine below_set ?_ GE263.out) | exact HB.out)⟩⟩
                                    · as_aux_lemma =>
                                      rw [if_neg c99] at H
                                      exact absurd H (by simp)
                                  · as_aux_lemma =>
                                    rw [if_neg c98] at H
                                    exact absurd H (by simp)
                          · as_aux_lemma =>
                            rw [if_neg c87] at H
                            have c87b0 : decide (0 < (x4_11.length : Int)) = false := decide_eq_false c87
                            have c87b1 : decide (0 < x4_11.length) = false := decide_eq_false (by omega)
                            clear c87
                            replace H := Option.bind_eq_some_iff.mp H
                            obtain ⟨t298, A1050, H⟩ := H
                            replace H : (if 0 ≤ ((rd_T28 t256 x21_1).f1) then (if ((rd_T28 t256 x21_1).f1) < (x3_11.length : Int) then (if (t298 != (rdOf false x3_11 ((rd_T28 t256 x21_1).f1))) = true then (some false) else (laws_FnScriptWhole.l0 kj71 x3_11 x4_11 t256 (t256.length : Int) (wrap64 (x21_1 + 1)))) else (none)) else (none)) = some r := H
                            have A105 := Aside0.mk A1050
                            clear A1050
                            by_cases c106 : 0 ≤ ((rd_T28 t256 x21_1).f1)
                            · as_aux_lemma =>
                              rw [if_pos c106] at H
                              have c106b0 : decide (0 ≤ ((rd_T28 t256 x21_1).f1)) = true := decide_eq_true c106
                              clear c106
                              by_cases c107 : ((rd_T28 t256 x21_1).f1) < (x3_11.length : Int)
                              · as_aux_lemma =>
                                rw [if_pos c107] at H
                                have c107b0 : decide (((rd_T28 t256 x21_1).f1) < (x3_11.length : Int)) = true := decide_eq_true c107
                                clear c107
                                by_cases c108 : (t298 != (rdOf false x3_11 ((rd_T28 t256 x21_1).f1))) = true
                                · as_aux_lemma =>
                                  rw [if_pos c108] at H
                                  have c108b0 : (t298 != (rdOf false x3_11 ((rd_T28 t256 x21_1).f1))) = true := c108
                                  (try (have c108b1 : decide (t298 = (rdOf false x3_11 ((rd_T28 t256 x21_1).f1))) = false := by simpa using c108))
                                  (try (have c108b2 : (t298 == (rdOf false x3_11 ((rd_T28 t256 x21_1).f1))) = false := by simpa using c108))
                                  (try (have c108b3 : ¬ (t298 = (rdOf false x3_11 ((rd_T28 t256 x21_1).f1))) := by simpa using c108))
                                  clear c108
                                  obtain rfl := Option.some.inj H
                                  have hcz109_0 : wc.cell? ⟨gb263, 0, none⟩ = some (.int .i64 ((rd_T28 t256 x21_1).f0)) := (blk_cell BK263.out 0).trans rfl
                                  have hcz109_1 : wc.cell? ⟨gb263, 1, none⟩ = some (.int .i64 ((rd_T28 t256 x21_1).f1)) := (blk_cell BK263.out 1).trans rfl
                                  have hcz109_2 : wc.cell? ⟨gb263, 2, none⟩ = some (.int .i64 ((rd_T28 t256 x21_1).f2)) := (blk_cell BK263.out 2).trans rfl
                                  have hfz109_0 := blk_frozen BK263.out 0
                                  have hfz109_1 := blk_frozen BK263.out 1
                                  have hfz109_2 := blk_frozen BK263.out 2
                                  obtain ⟨Ao110, co110, eo110⟩ := Kd.R_slice HO_3.out
                                  subst eo110
                                  try go_wp2_with (first | ((with_reducible refine gate_callee (f := 15) rfl ?_); refine goesL_ (some 131) rfl rfl Try.func15 (by kernel_rfl) rfl #[.slice Ao110 x3_11.length co110, .int .i64 ((rd_T28 t256 x21_1).f1)] rfl (by (try simp only [List.map_toArray, List.map_cons, List.map_nil]); first | done | rfl | (simp only [List.length_drop, List.length_take]; rfl)) ?_; (with_reducible refine (spec_Next.calls kj71 _ _ x3_11 ((rd_T28 t256 x21_1).f1) t293 _ ?side1 ?side2 A86.out).mono ?_); (case side1 => repeat (first | exact (Kd.R_reads' HO_3.out).2.2 | (with_reducible refine Kd.C_alloc ?_ _) | (with_reducible refine Kd.C_drewN ?_ _) | (with_reducible refine Kd.C_drew ?_))); (case side2 => exact (Kd.R_reads' HO_3.out).2.1); rintro e w' ⟨rfl, ⟨nd, rfl⟩⟩; refine ⟨_, rfl, ?_⟩; obtain ⟨Ao111, co111, eo111⟩ := Kd.R_slice HO_4.out; subst eo111))
                                  (try (rw [drewN_self wc]; generalize hq_ : World.drewN wc _ = wc; have n0_ : Aside0 (Kd.R k28 28 wc w.heap.size (fun k_ => k_ ≠ gb263) (.slice (some ad262) t256.length co8) t256) := ⟨by rw [← hq_]; exact (by (with_reducible repeat (first | apply Kd.R_alloc | apply Kd.R_drewN | apply Kd.R_drew)); exact HO_19.out)⟩; have n1_ : Aside0 (Kd.R Kd.bool 4 wc w.heap.size (fun _ => True) (.slice Ao110 x3_11.length co110) x3_11) := ⟨by rw [← hq_]; exact (by (with_reducible repeat (first | apply Kd.R_alloc | apply Kd.R_drewN | apply Kd.R_drew)); exact HO_3.out)⟩; have n2_ : Aside0 (Kd.R k35 35 wc w.heap.size (fun _ => True) (.slice Ao111 x4_11.length co111) x4_11) := ⟨by rw [← hq_]; exact (by (with_reducible repeat (first | apply Kd.R_alloc | apply Kd.R_drewN | apply Kd.R_drew)); exact HO_4.out)⟩; have n3_ : Aside0 (wc.heap[gb263]? = some (.cells #[.int .i64 ((rd_T28 t256 x21_1).f0), .int .i64 ((rd_T28 t256 x21_1).f1), .int .i64 ((rd_T28 t256 x21_1).f2)] 28 (0, 0))) := ⟨by rw [← hq_]; exact (by (with_reducible repeat (first | refine blk_drewN ?_ _ | refine blk_drew ?_ | refine blk_alloc ?_ _)); exact BK263.out)⟩; have n4_ : Aside0 (Below w.heap.size w wc) := ⟨by rw [← hq_]; exact (by repeat (first | (with_reducible first | exact HB.out | apply below_alloc | apply pw_below_drewN | apply below_drew1 | refine below_set ?_ GE263.out) | exact HB.out))⟩; clear HO_19 HO_3 HO_4 BK263 HB hq_; have HO_19 := n0_; have HO_3 := n1_; have HO_4 := n2_; have BK263 := n3_; have HB := n4_; clear n0_ n1_ n2_ n3_ n4_))
                                  have n0_ := Aside0.mk (Kd.R_drew HO_3.out)
                                  have n1_ := Aside0.mk (Kd.R_drew HO_4.out)
                                  have n2_ := Aside0.mk (Kd.R_drew HO_19.out)
                                  have n3_ := Aside0.mk (blk_drew BK263.out)
                                  have n4_ := Aside0.mk (below_drew1 HB.out)
                                  clear HO_3
                                  clear HO_4
                                  clear HO_19
                                  clear BK263
                                  clear HB
                                  have HO_3 := n0_
                                  have HO_4 := n1_
                                  have HO_19 := n2_
                                  have BK263 := n3_
                                  have HB := n4_
                                  clear n0_ n1_ n2_ n3_ n4_
                                  have p299 : 0 ≤ (((rd_T28 t256 x21_1).f1) : Int) := of_decide_eq_true (by first | (with_reducible assumption) | assumption)
                                  have q299 : ((rd_T28 t256 x21_1).f1) < (x3_11.length : Int) := of_decide_eq_true (by first | (with_reducible assumption) | assumption)
                                  obtain ⟨ad299, e299, hx299_0⟩ := Kd.at_bool (Kd.R_reads' HO_3.out).2.2 ((rd_T28 t256 x21_1).f1) p299 q299
                                  cases e299
                                  replace p299 := eq_true p299
                                  replace q299 := eq_true q299
                                  refine start_ (n := 11) (S := fun w' => w'.cell? ⟨gb263, 0, none⟩ = some (.int .i64 ((rd_T28 t256 x21_1).f0)) ∧ w'.cell? ⟨gb263, 1, none⟩ = some (.int .i64 ((rd_T28 t256 x21_1).f1)) ∧ w'.cell? ⟨gb263, 2, none⟩ = some (.int .i64 ((rd_T28 t256 x21_1).f2)) ∧ w'.cell? (ad299.add (((rd_T28 t256 x21_1).f1)).toNat) = some (.bool (rdOf false x3_11 ((rd_T28 t256 x21_1).f1)))) (ds := []) #[false, false, false, false, false, false, false, false, false, false, false] (by kernel_rfl) rfl rfl ⟨(blk_cell BK263.out 0).trans rfl, (blk_cell BK263.out 1).trans rfl, (blk_cell BK263.out 2).trans rfl, hx299_0⟩ (fun hHeld => ?_); refine with_tabW laws_FnScriptWhole.tab30 laws_FnScriptWhole.bits30 (fun HT_ HW_ => ?_)
                                  generalize wc.drew = w112 at HO_3 HO_4 HO_19 BK263 HB hx299_0 hHeld ⊢
                                  refine pure_ (i := 0) (N := some 156) (v := ?_) (a' := ?_) #[true, false, false, false, false, false, false, false, false, false, false] rfl rfl (any_of HT_.out (by kernel_rfl)) (fun _ _ _ h => h) (Or.inl ⟨by rfl, ?_⟩) ?_ ?_
                                  rotate_left
                                  · intro w'
                                    go_simp
                                    with_reducible rfl
                                  rotate_left
                                  · simp only [Act.put, List.setIfInBounds_toArray, List.set_cons_zero, List.set_cons_succ, i64_w, i32_w]
                                    rfl
                                  refine pure_ (i := 1) (N := some 157) (v := ?_) (a' := ?_) #[true, true, false, false, false, false, false, false, false, false, false] rfl rfl (any_of HT_.out (by kernel_rfl)) (fun _ _ _ h => h) (Or.inl ⟨by rfl, ?_⟩) ?_ ?_
                                  rotate_left
                                  · intro w'
                                    go_simp
                                    with_reducible rfl
                                  rotate_left
                                  · simp only [Act.put, List.setIfInBounds_toArray, List.set_cons_zero, List.set_cons_succ, i64_w, i32_w]
                                    rfl
                                  refine pure_ (i := 5) (N := some 161) (v := ?_) (a' := ?_) #[true, true, false, false, false, true, false, false, false, false, false] rfl rfl (any_of HT_.out (by kernel_rfl)) (fun _ _ _ h => h) (Or.inl ⟨by rfl, ?_⟩) ?_ ?_
                                  rotate_left
                                  · intro w'
                                    go_simp
                                    with_reducible rfl
                                  rotate_left
                                  · simp only [Act.put, List.setIfInBounds_toArray, List.set_cons_zero, List.set_cons_succ, i64_w, i32_w]
                                    rfl
                                  refine pure_ (i := 6) (N := some 162) (v := ?_) (a' := ?_) #[true, true, false, false, false, true, true, false, false, false, false] rfl rfl (any_of HT_.out (by kernel_rfl)) (fun _ _ _ h => h) (Or.inl ⟨by rfl, ?_⟩) ?_ ?_
                                  rotate_left
                                  · intro w'
                                    go_simp
                                    with_reducible rfl
                                  rotate_left
                                  · simp only [Act.put, List.setIfInBounds_toArray, List.set_cons_zero, List.set_cons_succ, i64_w, i32_w]
                                    rfl
                                  refine take_ (i := 2) (N := some 158) (v := ?_) (a' := ?_) #[true, true, true, false, false, true, true, false, false, false, false] rfl rfl (take_ofW HT_.out HW_.out (by kernel_rfl)) (fun _ _ _ h => h) (Or.inl ⟨by rfl, ?_⟩) hHeld ?_ ?_
                                  rotate_left
                                  · rintro w' ⟨s0, s1, s2, s3⟩
                                    go_simp
                                    with_reducible rfl
                                  rotate_left
                                  · simp only [Act.put, List.setIfInBounds_toArray, List.set_cons_zero, List.set_cons_succ, i64_w, i32_w]
                                    rfl
                                  refine pure_ (i := 3) (N := some 159) (v := ?_) (a' := ?_) #[true, true, true, true, false, true, true, false, false, false, false] rfl rfl (any_of HT_.out (by kernel_rfl)) (fun _ _ _ h => h) (Or.inl ⟨by rfl, ?_⟩) ?_ ?_
                                  rotate_left
                                  · intro w'
                                    go_simp
                                    with_reducible rfl
                                  rotate_left
                                  · simp only [Act.put, List.setIfInBounds_toArray, List.set_cons_zero, List.set_cons_succ, i64_w, i32_w]
                                    rfl
                                  refine take_ (i := 7) (N := some 163) (v := ?_) (a' := ?_) #[true, true, true, true, false, true, true, true, false, false, false] rfl rfl (take_ofW HT_.out HW_.out (by kernel_rfl)) (fun _ _ _ h => h) (Or.inl ⟨by rfl, ?_⟩) hHeld ?_ ?_
                                  rotate_left
                                  · rintro w' ⟨s0, s1, s2, s3⟩
                                    go_simp
                                    with_reducible rfl
                                  rotate_left
                                  · simp only [Act.put, List.setIfInBounds_toArray, List.set_cons_zero, List.set_cons_succ, i64_w, i32_w]
                                    rfl
                                  refine pure_ (i := 8) (N := some 164) (v := ?_) (a' := ?_) #[true, true, true, true, false, true, true, true, true, false, false] rfl rfl (any_of HT_.out (by kernel_rfl)) (fun _ _ _ h => h) (Or.inl ⟨by rfl, ?_⟩) ?_ ?_
                                  rotate_left
                                  · intro w'
                                    go_simp
                                    with_reducible rfl
                                  rotate_left
                                  · simp only [Act.put, List.setIfInBounds_toArray, List.set_cons_zero, List.set_cons_succ, i64_w, i32_w]
                                    rfl
                                  refine take_ (i := 9) (N := some 165) (v := ?_) (a' := ?_) #[true, true, true, true, false, true, true, true, true, true, false] rfl rfl (take_ofW HT_.out HW_.out (by kernel_rfl)) (fun _ _ _ h => h) (Or.inl ⟨by rfl, ?_⟩) hHeld ?_ ?_
                                  rotate_left
                                  · rintro w' ⟨s0, s1, s2, s3⟩
                                    go_simp
                                    with_reducible rfl
                                  rotate_left
                                  · simp only [Act.put, List.setIfInBounds_toArray, List.set_cons_zero, List.set_cons_succ, i64_w, i32_w]
                                    rfl
                                  refine one_ (i := 4) (N := some 160) #[true, true, true, true, true, true, true, true, true, true, false] rfl rfl (one_of HT_.out (by kernel_rfl)) (by decide) (fun K hK => ?_)
                                  refine goes_ Try.func17 (by kernel_rfl) rfl #[.slice Ao111 x4_11.length co111, .int .u64 (IntKind.u64.wrap (((rd_T28 t256 x21_1).f1)))] (by rfl) rfl rfl (by (try simp only [List.map_toArray, List.map_cons, List.map_nil]); first | done | rfl | (simp only [List.length_drop, List.length_take]; rfl)) ?_
                                  with_reducible refine (impl_InList.calls kj71 _ _ x4_11 (IntKind.u64.wrap (((rd_T28 t256 x21_1).f1))) t298 _ ?side1 ?side2 A105.out).mono ?_
                                  (case side1 => repeat (first | exact (Kd.R_reads' HO_4.out).2.2 | (with_reducible refine Kd.C_alloc ?_ _) | (with_reducible refine Kd.C_drewN ?_ _) | (with_reducible refine Kd.C_drew ?_)))
                                  (case side2 => exact (Kd.R_reads' HO_4.out).2.1)
                                  rintro e w113 ⟨rfl, hb⟩
                                  have HS3_ := (hb.cell (World.block_lt_of_cell? _ _ (hHeld.2.2.2))).trans (hHeld.2.2.2)
                                  refine ⟨_, rfl, ?_⟩
                                  have n0_ := Aside0.mk (Kd.R_below (by (with_reducible repeat (first | apply Kd.R_alloc | apply Kd.R_drewN | apply Kd.R_drew)); exact HO_3.out) hb)
                                  have n1_ := Aside0.mk (Kd.R_below (by (with_reducible repeat (first | apply Kd.R_alloc | apply Kd.R_drewN | apply Kd.R_drew)); exact HO_4.out) hb)
                                  have n2_ := Aside0.mk (Kd.R_below (by (with_reducible repeat (first | apply Kd.R_alloc | apply Kd.R_drewN | apply Kd.R_drew)); exact HO_19.out) hb)
                                  have n3_ := Aside0.mk (blk_below (g := gb263) (o := .cells #[.int .i64 ((rd_T28 t256 x21_1).f0), .int .i64 ((rd_T28 t256 x21_1).f1), .int .i64 ((rd_T28 t256 x21_1).f2)] 28 (0, 0)) (by (with_reducible repeat (first | refine blk_drewN ?_ _ | refine blk_drew ?_ | refine blk_alloc ?_ _)); exact BK263.out) hb)
                                  have n4_ := Aside0.mk (below_step (by repeat (first | (with_reducible first | exact HB.out | apply below_alloc | apply pw_below_drewN | apply below_drew1 | refine below_set ?_ GE263.out) | exact HB.out)) hb)
                                  clear HO_3
                                  clear HO_4
                                  clear HO_19
                                  clear BK263
                                  clear HB
                                  have HO_3 := n0_
                                  have HO_4 := n1_
                                  have HO_19 := n2_
                                  have BK263 := n3_
                                  have HB := n4_
                                  clear n0_ n1_ n2_ n3_ n4_
                                  (try clear hb)
                                  (try clear hb2)
                                  (try clear hk)
                                  (try clear hi)
                                  refine hK.out _ _ ⟨(blk_cell BK263.out 0).trans rfl, (blk_cell BK263.out 1).trans rfl, (blk_cell BK263.out 2).trans rfl, HS3_⟩ (fun hHeld => ?_)
                                  clear hK K
                                  refine norm_ (a' := ?_) ?_ ?_
                                  rotate_left
                                  · show Act.put _ (some 160) _ = _
                                    simp only [Act.put, List.setIfInBounds_toArray, List.set_cons_zero, List.set_cons_succ, i64_w, i32_w]
                                    rfl
                                  refine pure_ (i := 10) (N := some 166) (v := ?_) (a' := ?_) #[true, true, true, true, true, true, true, true, true, true, true] rfl rfl (any_of HT_.out (by kernel_rfl)) (fun _ _ _ h => h) (Or.inl ⟨by rfl, ?_⟩) ?_ ?_
                                  rotate_left
                                  · intro w'
                                    go_simp
                                    with_reducible rfl
                                  rotate_left
                                  · simp only [Act.put, List.setIfInBounds_toArray, List.set_cons_zero, List.set_cons_succ, i64_w, i32_w]
                                    rfl
                                  refine done_ (done_of HT_.out (by kernel_rfl)) ?_
                                  try go_wp2
                                  go_ret
                                  exact ⟨by first | rfl | (simp [errW_none, errW_some] <;> rfl) | (simp [*, errW_none, errW_some] <;> rfl), by repeat (first | (with_reducible first | exact HB.out | apply below_alloc | apply pw_below_drewN | apply below_drew1 | refine below_set ?_ GE263.out) | exact HB.out)⟩
                                · as_aux_lemma =>
                                  rw [if_neg c108] at H
                                  have c108b0 : (t298 != (rdOf false x3_11 ((rd_T28 t256 x21_1).f1))) = false := by simpa using c108
                                  (try (have c108b1 : decide (t298 = (rdOf false x3_11 ((rd_T28 t256 x21_1).f1))) = true := by simpa using c108))
                                  (try (have c108b2 : (t298 == (rdOf false x3_11 ((rd_T28 t256 x21_1).f1))) = true := by simpa using c108))
                                  clear c108
                                  have H' := Aside0.mk H
                                  clear H
                                  have hcz114_0 : wc.cell? ⟨gb263, 0, none⟩ = some (.int .i64 ((rd_T28 t256 x21_1).f0)) := (blk_cell BK263.out 0).trans rfl
                                  have hcz114_1 : wc.cell? ⟨gb263, 1, none⟩ = some (.int .i64 ((rd_T28 t256 x21_1).f1)) := (blk_cell BK263.out 1).trans rfl
                                  have hcz114_2 : wc.cell? ⟨gb263, 2, none⟩ = some (.int .i64 ((rd_T28 t256 x21_1).f2)) := (blk_cell BK263.out 2).trans rfl
                                  have hfz114_0 := blk_frozen BK263.out 0
                                  have hfz114_1 := blk_frozen BK263.out 1
                                  have hfz114_2 := blk_frozen BK263.out 2
                                  obtain ⟨Ao115, co115, eo115⟩ := Kd.R_slice HO_3.out
                                  subst eo115
                                  try go_wp2_with (first | ((with_reducible refine gate_callee (f := 15) rfl ?_); refine goesL_ (some 131) rfl rfl Try.func15 (by kernel_rfl) rfl #[.slice Ao115 x3_11.length co115, .int .i64 ((rd_T28 t256 x21_1).f1)] rfl (by (try simp only [List.map_toArray, List.map_cons, List.map_nil]); first | done | rfl | (simp only [List.length_drop, List.length_take]; rfl)) ?_; (with_reducible refine (spec_Next.calls kj71 _ _ x3_11 ((rd_T28 t256 x21_1).f1) t293 _ ?side1 ?side2 A86.out).mono ?_); (case side1 => repeat (first | exact (Kd.R_reads' HO_3.out).2.2 | (with_reducible refine Kd.C_alloc ?_ _) | (with_reducible refine Kd.C_drewN ?_ _) | (with_reducible refine Kd.C_drew ?_))); (case side2 => exact (Kd.R_reads' HO_3.out).2.1); rintro e w' ⟨rfl, ⟨nd, rfl⟩⟩; refine ⟨_, rfl, ?_⟩; obtain ⟨Ao116, co116, eo116⟩ := Kd.R_slice HO_4.out; subst eo116))
                                  (try (rw [drewN_self wc]; generalize hq_ : World.drewN wc _ = wc; have n0_ : Aside0 (Kd.R k28 28 wc w.heap.size (fun k_ => k_ ≠ gb263) (.slice (some ad262) t256.length co8) t256) := ⟨by rw [← hq_]; exact (by (with_reducible repeat (first | apply Kd.R_alloc | apply Kd.R_drewN | apply Kd.R_drew)); exact HO_19.out)⟩; have n1_ : Aside0 (Kd.R Kd.bool 4 wc w.heap.size (fun _ => True) (.slice Ao115 x3_11.length co115) x3_11) := ⟨by rw [← hq_]; exact (by (with_reducible repeat (first | apply Kd.R_alloc | apply Kd.R_drewN | apply Kd.R_drew)); exact HO_3.out)⟩; have n2_ : Aside0 (Kd.R k35 35 wc w.heap.size (fun _ => True) (.slice Ao116 x4_11.length co116) x4_11) := ⟨by rw [← hq_]; exact (by (with_reducible repeat (first | apply Kd.R_alloc | apply Kd.R_drewN | apply Kd.R_drew)); exact HO_4.out)⟩; have n3_ : Aside0 (wc.heap[gb263]? = some (.cells #[.int .i64 ((rd_T28 t256 x21_1).f0), .int .i64 ((rd_T28 t256 x21_1).f1), .int .i64 ((rd_T28 t256 x21_1).f2)] 28 (0, 0))) := ⟨by rw [← hq_]; exact (by (with_reducible repeat (first | refine blk_drewN ?_ _ | refine blk_drew ?_ | refine blk_alloc ?_ _)); exact BK263.out)⟩; have n4_ : Aside0 (Below w.heap.size w wc) := ⟨by rw [← hq_]; exact (by repeat (first | (with_reducible first | exact HB.out | apply below_alloc | apply pw_below_drewN | apply below_drew1 | refine below_set ?_ GE263.out) | exact HB.out))⟩; clear HO_19 HO_3 HO_4 BK263 HB hq_; have HO_19 := n0_; have HO_3 := n1_; have HO_4 := n2_; have BK263 := n3_; have HB := n4_; clear n0_ n1_ n2_ n3_ n4_))
                                  have n0_ := Aside0.mk (Kd.R_drew HO_3.out)
                                  have n1_ := Aside0.mk (Kd.R_drew HO_4.out)
                                  have n2_ := Aside0.mk (Kd.R_drew HO_19.out)
                                  have n3_ := Aside0.mk (blk_drew BK263.out)
                                  have n4_ := Aside0.mk (below_drew1 HB.out)
                                  clear HO_3
                                  clear HO_4
                                  clear HO_19
                                  clear BK263
                                  clear HB
                                  have HO_3 := n0_
                                  have HO_4 := n1_
                                  have HO_19 := n2_
                                  have BK263 := n3_
                                  have HB := n4_
                                  clear n0_ n1_ n2_ n3_ n4_
                                  have p299 : 0 ≤ (((rd_T28 t256 x21_1).f1) : Int) := of_decide_eq_true (by first | (with_reducible assumption) | assumption)
                                  have q299 : ((rd_T28 t256 x21_1).f1) < (x3_11.length : Int) := of_decide_eq_true (by first | (with_reducible assumption) | assumption)
                                  obtain ⟨ad299, e299, hx299_0⟩ := Kd.at_bool (Kd.R_reads' HO_3.out).2.2 ((rd_T28 t256 x21_1).f1) p299 q299
                                  cases e299
                                  replace p299 := eq_true p299
                                  replace q299 := eq_true q299
                                  refine start_ (n := 11) (S := fun w' => w'.cell? ⟨gb263, 0, none⟩ = some (.int .i64 ((rd_T28 t256 x21_1).f0)) ∧ w'.cell? ⟨gb263, 1, none⟩ = some (.int .i64 ((rd_T28 t256 x21_1).f1)) ∧ w'.cell? ⟨gb263, 2, none⟩ = some (.int .i64 ((rd_T28 t256 x21_1).f2)) ∧ w'.cell? (ad299.add (((rd_T28 t256 x21_1).f1)).toNat) = some (.bool (rdOf false x3_11 ((rd_T28 t256 x21_1).f1)))) (ds := []) #[false, false, false, false, false, false, false, false, false, false, false] (by kernel_rfl) rfl rfl ⟨(blk_cell BK263.out 0).trans rfl, (blk_cell BK263.out 1).trans rfl, (blk_cell BK263.out 2).trans rfl, hx299_0⟩ (fun hHeld => ?_); refine with_tabW laws_FnScriptWhole.tab30 laws_FnScriptWhole.bits30 (fun HT_ HW_ => ?_)
                                  generalize wc.drew = w117 at HO_3 HO_4 HO_19 BK263 HB hx299_0 hHeld ⊢
                                  refine pure_ (i := 0) (N := some 156) (v := ?_) (a' := ?_) #[true, false, false, false, false, false, false, false, false, false, false] rfl rfl (any_of HT_.out (by kernel_rfl)) (fun _ _ _ h => h) (Or.inl ⟨by rfl, ?_⟩) ?_ ?_
                                  rotate_left
                                  · intro w'
                                    go_simp
                                    with_reducible rfl
                                  rotate_left
                                  · simp only [Act.put, List.setIfInBounds_toArray, List.set_cons_zero, List.set_cons_succ, i64_w, i32_w]
                                    rfl
                                  refine pure_ (i := 1) (N := some 157) (v := ?_) (a' := ?_) #[true, true, false, false, false, false, false, false, false, false, false] rfl rfl (any_of HT_.out (by kernel_rfl)) (fun _ _ _ h => h) (Or.inl ⟨by rfl, ?_⟩) ?_ ?_
                                  rotate_left
                                  · intro w'
                                    go_simp
                                    with_reducible rfl
                                  rotate_left
                                  · simp only [Act.put, List.setIfInBounds_toArray, List.set_cons_zero, List.set_cons_succ, i64_w, i32_w]
                                    rfl
                                  refine pure_ (i := 5) (N := some 161) (v := ?_) (a' := ?_) #[true, true, false, false, false, true, false, false, false, false, false] rfl rfl (any_of HT_.out (by kernel_rfl)) (fun _ _ _ h => h) (Or.inl ⟨by rfl, ?_⟩) ?_ ?_
                                  rotate_left
                                  · intro w'
                                    go_simp
                                    with_reducible rfl
                                  rotate_left
                                  · simp only [Act.put, List.setIfInBounds_toArray, List.set_cons_zero, List.set_cons_succ, i64_w, i32_w]
                                    rfl
                                  refine pure_ (i := 6) (N := some 162) (v := ?_) (a' := ?_) #[true, true, false, false, false, true, true, false, false, false, false] rfl rfl (any_of HT_.out (by kernel_rfl)) (fun _ _ _ h => h) (Or.inl ⟨by rfl, ?_⟩) ?_ ?_
                                  rotate_left
                                  · intro w'
                                    go_simp
                                    with_reducible rfl
                                  rotate_left
                                  · simp only [Act.put, List.setIfInBounds_toArray, List.set_cons_zero, List.set_cons_succ, i64_w, i32_w]
                                    rfl
                                  refine take_ (i := 2) (N := some 158) (v := ?_) (a' := ?_) #[true, true, true, false, false, true, true, false, false, false, false] rfl rfl (take_ofW HT_.out HW_.out (by kernel_rfl)) (fun _ _ _ h => h) (Or.inl ⟨by rfl, ?_⟩) hHeld ?_ ?_
                                  rotate_left
                                  · rintro w' ⟨s0, s1, s2, s3⟩
                                    go_simp
                                    with_reducible rfl
                                  rotate_left
                                  · simp only [Act.put, List.setIfInBounds_toArray, List.set_cons_zero, List.set_cons_succ, i64_w, i32_w]
                                    rfl
                                  refine pure_ (i := 3) (N := some 159) (v := ?_) (a' := ?_) #[true, true, true, true, false, true, true, false, false, false, false] rfl rfl (any_of HT_.out (by kernel_rfl)) (fun _ _ _ h => h) (Or.inl ⟨by rfl, ?_⟩) ?_ ?_
                                  rotate_left
                                  · intro w'
                                    go_simp
                                    with_reducible rfl
                                  rotate_left
                                  · simp only [Act.put, List.setIfInBounds_toArray, List.set_cons_zero, List.set_cons_succ, i64_w, i32_w]
                                    rfl
                                  refine take_ (i := 7) (N := some 163) (v := ?_) (a' := ?_) #[true, true, true, true, false, true, true, true, false, false, false] rfl rfl (take_ofW HT_.out HW_.out (by kernel_rfl)) (fun _ _ _ h => h) (Or.inl ⟨by rfl, ?_⟩) hHeld ?_ ?_
                                  rotate_left
                                  · rintro w' ⟨s0, s1, s2, s3⟩
                                    go_simp
                                    with_reducible rfl
                                  rotate_left
                                  · simp only [Act.put, List.setIfInBounds_toArray, List.set_cons_zero, List.set_cons_succ, i64_w, i32_w]
                                    rfl
                                  refine pure_ (i := 8) (N := some 164) (v := ?_) (a' := ?_) #[true, true, true, true, false, true, true, true, true, false, false] rfl rfl (any_of HT_.out (by kernel_rfl)) (fun _ _ _ h => h) (Or.inl ⟨by rfl, ?_⟩) ?_ ?_
                                  rotate_left
                                  · intro w'
                                    go_simp
                                    with_reducible rfl
                                  rotate_left
                                  · simp only [Act.put, List.setIfInBounds_toArray, List.set_cons_zero, List.set_cons_succ, i64_w, i32_w]
                                    rfl
                                  refine take_ (i := 9) (N := some 165) (v := ?_) (a' := ?_) #[true, true, true, true, false, true, true, true, true, true, false] rfl rfl (take_ofW HT_.out HW_.out (by kernel_rfl)) (fun _ _ _ h => h) (Or.inl ⟨by rfl, ?_⟩) hHeld ?_ ?_
                                  rotate_left
                                  · rintro w' ⟨s0, s1, s2, s3⟩
                                    go_simp
                                    with_reducible rfl
                                  rotate_left
                                  · simp only [Act.put, List.setIfInBounds_toArray, List.set_cons_zero, List.set_cons_succ, i64_w, i32_w]
                                    rfl
                                  refine one_ (i := 4) (N := some 160) #[true, true, true, true, true, true, true, true, true, true, false] rfl rfl (one_of HT_.out (by kernel_rfl)) (by decide) (fun K hK => ?_)
                                  refine goes_ Try.func17 (by kernel_rfl) rfl #[.slice Ao116 x4_11.length co116, .int .u64 (IntKind.u64.wrap (((rd_T28 t256 x21_1).f1)))] (by rfl) rfl rfl (by (try simp only [List.map_toArray, List.map_cons, List.map_nil]); first | done | rfl | (simp only [List.length_drop, List.length_take]; rfl)) ?_
                                  with_reducible refine (impl_InList.calls kj71 _ _ x4_11 (IntKind.u64.wrap (((rd_T28 t256 x21_1).f1))) t298 _ ?side1 ?side2 A105.out).mono ?_
                                  (case side1 => repeat (first | exact (Kd.R_reads' HO_4.out).2.2 | (with_reducible refine Kd.C_alloc ?_ _) | (with_reducible refine Kd.C_drewN ?_ _) | (with_reducible refine Kd.C_drew ?_)))
                                  (case side2 => exact (Kd.R_reads' HO_4.out).2.1)
                                  rintro e w118 ⟨rfl, hb⟩
                                  have HS3_ := (hb.cell (World.block_lt_of_cell? _ _ (hHeld.2.2.2))).trans (hHeld.2.2.2)
                                  refine ⟨_, rfl, ?_⟩
                                  have n0_ := Aside0.mk (Kd.R_below (by (with_reducible repeat (first | apply Kd.R_alloc | apply Kd.R_drewN | apply Kd.R_drew)); exact HO_3.out) hb)
                                  have n1_ := Aside0.mk (Kd.R_below (by (with_reducible repeat (first | apply Kd.R_alloc | apply Kd.R_drewN | apply Kd.R_drew)); exact HO_4.out) hb)
                                  have n2_ := Aside0.mk (Kd.R_below (by (with_reducible repeat (first | apply Kd.R_alloc | apply Kd.R_drewN | apply Kd.R_drew)); exact HO_19.out) hb)
                                  have n3_ := Aside0.mk (blk_below (g := gb263) (o := .cells #[.int .i64 ((rd_T28 t256 x21_1).f0), .int .i64 ((rd_T28 t256 x21_1).f1), .int .i64 ((rd_T28 t256 x21_1).f2)] 28 (0, 0)) (by (with_reducible repeat (first | refine blk_drewN ?_ _ | refine blk_drew ?_ | refine blk_alloc ?_ _)); exact BK263.out) hb)
                                  have n4_ := Aside0.mk (below_step (by repeat (first | (with_reducible first | exact HB.out | apply below_alloc | apply pw_below_drewN | apply below_drew1 | refine below_set ?_ GE263.out) | exact HB.out)) hb)
                                  clear HO_3
                                  clear HO_4
                                  clear HO_19
                                  clear BK263
                                  clear HB
                                  have HO_3 := n0_
                                  have HO_4 := n1_
                                  have HO_19 := n2_
                                  have BK263 := n3_
                                  have HB := n4_
                                  clear n0_ n1_ n2_ n3_ n4_
                                  (try clear hb)
                                  (try clear hb2)
                                  (try clear hk)
                                  (try clear hi)
                                  refine hK.out _ _ ⟨(blk_cell BK263.out 0).trans rfl, (blk_cell BK263.out 1).trans rfl, (blk_cell BK263.out 2).trans rfl, HS3_⟩ (fun hHeld => ?_)
                                  clear hK K
                                  refine norm_ (a' := ?_) ?_ ?_
                                  rotate_left
                                  · show Act.put _ (some 160) _ = _
                                    simp only [Act.put, List.setIfInBounds_toArray, List.set_cons_zero, List.set_cons_succ, i64_w, i32_w]
                                    rfl
                                  refine pure_ (i := 10) (N := some 166) (v := ?_) (a' := ?_) #[true, true, true, true, true, true, true, true, true, true, true] rfl rfl (any_of HT_.out (by kernel_rfl)) (fun _ _ _ h => h) (Or.inl ⟨by rfl, ?_⟩) ?_ ?_
                                  rotate_left
                                  · intro w'
                                    go_simp
                                    with_reducible rfl
                                  rotate_left
                                  · simp only [Act.put, List.setIfInBounds_toArray, List.set_cons_zero, List.set_cons_succ, i64_w, i32_w]
                                    rfl
                                  refine done_ (done_of HT_.out (by kernel_rfl)) ?_
                                  try go_wp2
                                  go_roundg kj71
                                  case measure => have := HK1.out; have := HJ11.out; have := HJ71.out; omega
                                  case rel => exact ⟨(x3_11), (x4_11), (wrap64 (x21_1 + 1)), (by first | rfl | (simp; done) | (simp [*]; done)), H', ⟨by have := HK1.out; have := HJ11.out; have := HJ71.out; omega⟩, ⟨by (with_reducible repeat (first | apply Kd.R_alloc | apply Kd.R_drewN | apply Kd.R_drew)); exact HO_3.out⟩, ⟨by (with_reducible repeat (first | apply Kd.R_alloc | apply Kd.R_drewN | apply Kd.R_drew)); exact HO_4.out⟩, ⟨by (with_reducible repeat (first | apply Kd.R_alloc | apply Kd.R_drewN | apply Kd.R_drew)); exact Kd.R_mono HO_19.out (fun _ hk => trivial)⟩, ⟨by repeat (first | (with_reducible first | exact HB.out | apply below_alloc | apply pw_below_drewN | apply below_drew1 | refine below_set ?_ GE263.out) | exact HB.out)⟩⟩
                              · as_aux_lemma =>
                                rw [if_neg c107] at H
                                exact absurd H (by simp)
                            · as_aux_lemma =>
                              rw [if_neg c106] at H
                              exact absurd H (by simp)
              · as_aux_lemma =>
                rw [if_neg c11] at H
                exact absurd H (by simp)
            · as_aux_lemma =>
              rw [if_neg c10] at H
              exact absurd H (by simp)
          · as_aux_lemma =>
            rw [if_neg c9] at H
            have c9b0 : decide (x21_1 < (t256.length : Int)) = false := decide_eq_false c9
            clear c9
            replace H := Option.bind_eq_some_iff.mp H
            obtain ⟨⟨t259, t260⟩, A1190, H⟩ := H
            replace H : ((impl_Size.f t259 t260).bind fun t261 => (some (t261 == 3))) = some r := H
            have A119 := Aside0.mk A1190
            clear A1190
            replace H := Option.bind_eq_some_iff.mp H
            obtain ⟨t261, A1200, H⟩ := H
            replace H : (some (t261 == 3)) = some r := H
            have A120 := Aside0.mk A1200
            clear A1200
            obtain rfl := Option.some.inj H
            go_wp2_with (first | ((with_reducible refine gate_callee (f := 8) rfl ?_); refine goesL_ (some 168) rfl rfl Try.func8 (by kernel_rfl) rfl #[.int .u64 2, .int .u64 5] rfl (by (try simp only [List.map_toArray, List.map_cons, List.map_nil]); first | done | rfl | (simp only [List.length_drop, List.length_take]; rfl)) ?_; (with_reducible refine (impl_Make.calls 2 5 t259 t260 _ A119.out).mono ?_); rintro e w121 ⟨rfl, hb⟩; refine ⟨_, rfl, ?_⟩; have n0_ := Aside0.mk (Kd.R_below (by (with_reducible repeat (first | apply Kd.R_alloc | apply Kd.R_drewN | apply Kd.R_drew)); exact HO_3.out) hb); have n1_ := Aside0.mk (Kd.R_below (by (with_reducible repeat (first | apply Kd.R_alloc | apply Kd.R_drewN | apply Kd.R_drew)); exact HO_4.out) hb); have n2_ := Aside0.mk (Kd.R_below (by (with_reducible repeat (first | apply Kd.R_alloc | apply Kd.R_drewN | apply Kd.R_drew)); exact HO_19.out) hb); have n3_ := Aside0.mk (below_step (by repeat (first | (with_reducible first | exact HB.out | apply below_alloc | apply pw_below_drewN | apply below_drew1) | exact HB.out)) hb); clear HO_3; clear HO_4; clear HO_19; clear HB; have HO_3 := n0_; have HO_4 := n1_; have HO_19 := n2_; have HB := n3_; clear n0_ n1_ n2_ n3_; (try clear hb); (try clear hb2); (try clear hk); (try clear hi)) | ((with_reducible refine gate_callee (f := 18) rfl ?_); refine goesL_ (some 169) rfl rfl Try.func18 (by kernel_rfl) rfl #[.agg #[.int .u64 t259, .int .u64 t260]] rfl (by (try simp only [List.map_toArray, List.map_cons, List.map_nil]); first | done | rfl | (simp only [List.length_drop, List.length_take]; rfl)) ?_; (with_reducible refine (impl_Size.calls t259 t260 t261 _ A120.out).mono ?_); rintro e w122 ⟨rfl, hb⟩; refine ⟨_, rfl, ?_⟩; have n0_ := Aside0.mk (Kd.R_below (by (with_reducible repeat (first | apply Kd.R_alloc | apply Kd.R_drewN | apply Kd.R_drew)); exact HO_3.out) hb); have n1_ := Aside0.mk (Kd.R_below (by (with_reducible repeat (first | apply Kd.R_alloc | apply Kd.R_drewN | apply Kd.R_drew)); exact HO_4.out) hb); have n2_ := Aside0.mk (Kd.R_below (by (with_reducible repeat (first | apply Kd.R_alloc | apply Kd.R_drewN | apply Kd.R_drew)); exact HO_19.out) hb); have n3_ := Aside0.mk (below_step (by repeat (first | (with_reducible first | exact HB.out | apply below_alloc | apply pw_below_drewN | apply below_drew1) | exact HB.out)) hb); clear HO_3; clear HO_4; clear HO_19; clear HB; have HO_3 := n0_; have HO_4 := n1_; have HO_19 := n2_; have HB := n3_; clear n0_ n1_ n2_ n3_; (try clear hb); (try clear hb2); (try clear hk); (try clear hi)))
            go_ret
            exact ⟨by first | rfl | (simp [errW_none, errW_some] <;> rfl) | (simp [*, errW_none, errW_some] <;> rfl), by repeat (first | (with_reducible first | exact HB.out | apply below_alloc | apply pw_below_drewN | apply below_drew1) | exact HB.out)⟩
    · as_aux_lemma =>
      rw [if_neg c3] at H
      exact absurd H (by simp)

/-- THE ONE PURE STATEMENT of laws_FnScriptWhole: yours. -/
def laws_FnScriptWhole.Pure : Prop := ∀ (l0 : List Int), l0.length ≤ maxLen → l0.length * 1 ≤ 140737488351232 → (∀ x ∈ l0, (Lit.int .u8 x).wf = true) → ∃ k, laws_FnScriptWhole.f k l0 = some true
theorem laws_FnScriptWhole.walk (P : laws_FnScriptWhole.Pure) (a0 : Option Addr) (len0 cap0 : Nat) (z0 : List Int) (w : World) (w0 : (a0 = none ∧ len0 = 0 ∧ cap0 = 0 ∧ z0 = []) ∨ ∃ x, a0 = some x ∧ len0 ≤ cap0 ∧ cap0 ≤ maxLen ∧ z0.length = cap0 ∧ (∀ i, i < z0.length → w.cell? (x.add i) = some (.int .u8 (z0.getD i 0))) ∧ ∀ n ∈ z0, (Lit.int .u8 n).wf = true) (y0 : len0 * 1 ≤ 140737488351232) :
    Calls Try.prog 3 #[.slice a0 len0 cap0] w fun e w' => e = .returned (.bool true) ∧ Below w.heap.size w w' := by
  obtain ⟨l0, rfl, hr0, hm0, hw0, hc0⟩ := ReadsInt.ofRowC w0
  obtain ⟨k, h⟩ := P l0 hm0 y0 hw0
  refine (laws_FnScriptWhole.calls k _ _ l0 true w (Kd.C_of_reads (d := (0 : Int)) (h1 := fun _ => rfl) hr0) hc0 h).mono ?_
  rintro e w' ⟨rfl, hd⟩
  exact ⟨rfl, hd⟩

end Go.Proofs.Yticjdbdhnfmidaa.K
