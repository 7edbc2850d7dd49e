/- The values' own types for the functions of this claim. (Lines that the kit's print has written for this claim, grouped by assemble.py.) -/
import Derived.Test.YticjdbdhnfmidaaProg
import Derived.Below
import Derived.Deep.Draws
import Derived.Deep.AppendLies
import Derived.Maps.AppendAt
import Derived.OwnWalk
import Derived.Laws.BytesArg
import Derived.Laws.MakeOwn
import Derived.Laws.OwnMore
import Derived.Deep.OwnRows
import Derived.Tactics
import Derived.Lib.ConvBytes
import Derived.Laws.Slices
import Derived.WalkKit
import Derived.KernelRfl
import Derived.RowKit3
import Derived.Deep.LoopGhost
import Derived.Deep.QuietTactic
import Derived.BigQuiet
import Derived.WideLaws
import Derived.Deep.DeepCutAuto
import Derived.Deep.CutBlock
import Derived.Deep.RegionHeld3
import Derived.Laws.Rows
import Derived.Lib.AppendStr
import Derived.ArgAppend
import Derived.Laws.IdiomCopy
import Derived.OrdersHeld
import Derived.Laws.BitsLemmas
import Derived.RowKit
import Derived.Test.YticjdbdhnfmidaaWWords
import Derived.Test.YticjdbdhnfmidaaWLast
import Derived.Test.YticjdbdhnfmidaaWTab
import Derived.Test.YticjdbdhnfmidaaWFour
import Derived.Test.YticjdbdhnfmidaaWQPut
import Derived.Test.YticjdbdhnfmidaaWApart
import Derived.Test.YticjdbdhnfmidaaWArr
import Derived.Test.YticjdbdhnfmidaaWZeros
import Derived.Test.YticjdbdhnfmidaaWFoot
import Derived.Test.YticjdbdhnfmidaaWKept
import Derived.Test.YticjdbdhnfmidaaWShare
import Derived.Test.YticjdbdhnfmidaaWN
import Derived.Test.YticjdbdhnfmidaaWFootNe
import Derived.Test.YticjdbdhnfmidaaWAt
import Derived.Test.YticjdbdhnfmidaaWEqStruct
import Derived.Test.YticjdbdhnfmidaaWRepsOne
import Derived.Test.YticjdbdhnfmidaaWInv
import Derived.Test.YticjdbdhnfmidaaWInvWords
import Derived.Test.YticjdbdhnfmidaaWGuard
import Derived.Test.YticjdbdhnfmidaaWNEv
import Derived.Test.YticjdbdhnfmidaaWMore
namespace Go.Proofs.Yticjdbdhnfmidaa.K
open Go.RowKit Go.Proofs.YticjdbdhnfmidaaW.PrintWords Go.Proofs.YticjdbdhnfmidaaW.PrintLast Go.Proofs.YticjdbdhnfmidaaW.PrintMore
attribute [local go_sem] max2_int min2_int max_two min_two max_three min_three max_four min_four   -- for this text's walks alone
set_option linter.unusedVariables false
set_option linter.unusedSimpArgs false



def errW : Option Int → Value
  | none => .nilIface
  | some c => .iface 0 (.int .i64 c)
theorem errW_none : errW none = .nilIface := rfl
theorem errW_some (c : Int) : errW (some c) = .iface 0 (.int .i64 c) := rfl

theorem info3 : (Try.prog.info? 3).map (fun i => (i.zero, i.size, i.bytes)) = some (some (.int .i64 0), 1, 8) := by kernel_rfl
theorem info4 : (Try.prog.info? 4).map (fun i => (i.zero, i.size, i.bytes)) = some (some (.bool false), 1, 1) := by kernel_rfl
theorem info28 : (Try.prog.info? 28).map (fun i => (i.zero, i.size, i.bytes)) = some (some (.agg #[(.int .i64 0), (.int .i64 0), (.int .i64 0)]), 3, 24) := by kernel_rfl
theorem info35 : (Try.prog.info? 35).map (fun i => (i.zero, i.size, i.bytes)) = some (some (.agg #[(.int .u64 0), (.int .u64 0)]), 2, 16) := by kernel_rfl
theorem info56 : (Try.prog.info? 56).map (fun i => (i.zero, i.size, i.bytes)) = some (some (.agg #[(.int .u64 0), (.int .u64 0)]), 2, 16) := by kernel_rfl
-- the values' own types
/-! #### struct type 28 -/
structure S28 where
  f0 : Int
  f1 : Int
  f2 : Int
def z28 : S28 := ⟨(0 : Int), (0 : Int), (0 : Int)⟩
def k28 : Kd S28 := Kd.iso (Kd.pair (Kd.int .i64) (Kd.pair (Kd.int .i64) (Kd.int .i64))) (fun x : S28 => (x.f0, x.f1, x.f2))
theorem k28_open {w : World} {x : S28} {cs : List Value} (h : k28.K w x cs) : cs = [.int .i64 x.f0, .int .i64 x.f1, .int .i64 x.f2] := by
  obtain ⟨_, _, rfl, rfl, ⟨_, _, rfl, rfl, rfl⟩⟩ := h
  exact rfl
theorem k28_openM {w : World} {base : Nat} {ok : Nat → Prop} {x : S28} {cs : List Value} (h : k28.M w base ok x cs) : cs = [.int .i64 x.f0, .int .i64 x.f1, .int .i64 x.f2] := by
  obtain ⟨_, _, rfl, rfl, ⟨_, _, rfl, rfl, rfl⟩⟩ := h
  exact rfl
theorem k28_mk (w : World) (x : S28)  : k28.K w x [.int .i64 x.f0, .int .i64 x.f1, .int .i64 x.f2] := ⟨[.int .i64 x.f0], [.int .i64 x.f1, .int .i64 x.f2], rfl, rfl, ⟨[.int .i64 x.f1], [.int .i64 x.f2], rfl, rfl, rfl⟩⟩
theorem k28_mkM (w : World) (base : Nat) (ok : Nat → Prop) (x : S28)  : k28.M w base ok x [.int .i64 x.f0, .int .i64 x.f1, .int .i64 x.f2] := ⟨[.int .i64 x.f0], [.int .i64 x.f1, .int .i64 x.f2], rfl, rfl, ⟨[.int .i64 x.f1], [.int .i64 x.f2], rfl, rfl, rfl⟩⟩
def rd_T28 (xs : List S28) (i : Int) : S28 := xs.getD i.toNat z28
theorem at_T28 {w : World} {A : Option Addr} {n : Nat} {xs : List S28} (h : Kd.C k28 w A n xs) (i : Int) (h0 : 0 ≤ i) (h1 : i < n) : ∃ ad , A = some ad ∧ w.cell? (ad.add (i.toNat * 3)) = some (.int .i64 (rd_T28 xs i).f0) ∧ w.cell? ⟨(ad.add (i.toNat * 3)).block, (ad.add (i.toNat * 3)).off + 1, none⟩ = some (.int .i64 (rd_T28 xs i).f1) ∧ w.cell? ⟨(ad.add (i.toNat * 3)).block, (ad.add (i.toNat * 3)).off + 2, none⟩ = some (.int .i64 (rd_T28 xs i).f2) := by
  obtain ⟨ad, c, e, _, hK, hc0⟩ := Kd.C_get h z28 i h0 h1
  have hc : ∀ j u, c[j]? = some u → w.cell? (ad.add (i.toNat * 3 + j)) = some u := hc0
  obtain rfl := k28_open hK
  exact ⟨ad, e, hc 0 _ rfl, by rw [← add_field _ _ 1 (by omega)]; exact hc 1 _ rfl, by rw [← add_field _ _ 2 (by omega)]; exact hc 2 _ rfl⟩

/-! #### struct type 69 -/
structure S69 where
  f0 : Int
def z69 : S69 := ⟨(0 : Int)⟩
def k69 : Kd S69 := Kd.iso (Kd.int .u64) (fun x : S69 => x.f0)
theorem k69_open {w : World} {x : S69} {cs : List Value} (h : k69.K w x cs) : cs = [.int .u64 x.f0] := by
  obtain rfl := h
  exact rfl
theorem k69_openM {w : World} {base : Nat} {ok : Nat → Prop} {x : S69} {cs : List Value} (h : k69.M w base ok x cs) : cs = [.int .u64 x.f0] := by
  obtain rfl := h
  exact rfl
theorem k69_mk (w : World) (x : S69)  : k69.K w x [.int .u64 x.f0] := rfl
theorem k69_mkM (w : World) (base : Nat) (ok : Nat → Prop) (x : S69)  : k69.M w base ok x [.int .u64 x.f0] := rfl
def rd_T69 (xs : List S69) (i : Int) : S69 := xs.getD i.toNat z69
theorem at_T69 {w : World} {A : Option Addr} {n : Nat} {xs : List S69} (h : Kd.C k69 w A n xs) (i : Int) (h0 : 0 ≤ i) (h1 : i < n) : ∃ ad , A = some ad ∧ w.cell? (ad.add i.toNat) = some (.int .u64 (rd_T69 xs i).f0) := by
  obtain ⟨ad, c, e, _, hK, hc0⟩ := Kd.C_get h z69 i h0 h1
  have hc : ∀ j u, c[j]? = some u → w.cell? (ad.add (i.toNat * 1 + j)) = some u := hc0
  obtain rfl := k69_open hK
  exact ⟨ad, e, by have hq := hc 0 _ rfl; rwa [Nat.mul_one, Nat.add_zero] at hq⟩

/-! #### struct type 71 -/
structure S71 where
  f0 : S69
  f1 : S69
def z71 : S71 := ⟨z69, z69⟩
def k71 : Kd S71 := Kd.iso (Kd.pair k69 k69) (fun x : S71 => (x.f0, x.f1))
theorem k71_open {w : World} {x : S71} {cs : List Value} (h : k71.K w x cs) : cs = [.int .u64 x.f0.f0, .int .u64 x.f1.f0] := by
  obtain ⟨_, _, rfl, s0, s1⟩ := h
  obtain rfl := k69_open s0
  obtain rfl := k69_open s1
  exact rfl
theorem k71_openM {w : World} {base : Nat} {ok : Nat → Prop} {x : S71} {cs : List Value} (h : k71.M w base ok x cs) : cs = [.int .u64 x.f0.f0, .int .u64 x.f1.f0] := by
  obtain ⟨_, _, rfl, s0, s1⟩ := h
  obtain rfl := k69_openM s0
  obtain rfl := k69_openM s1
  exact rfl
theorem k71_mk (w : World) (x : S71)  : k71.K w x [.int .u64 x.f0.f0, .int .u64 x.f1.f0] := ⟨[.int .u64 x.f0.f0], [.int .u64 x.f1.f0], rfl, (k69_mk w x.f0 ), (k69_mk w x.f1 )⟩
theorem k71_mkM (w : World) (base : Nat) (ok : Nat → Prop) (x : S71)  : k71.M w base ok x [.int .u64 x.f0.f0, .int .u64 x.f1.f0] := ⟨[.int .u64 x.f0.f0], [.int .u64 x.f1.f0], rfl, (k69_mkM w base ok x.f0 ), (k69_mkM w base ok x.f1 )⟩
def rd_T71 (xs : List S71) (i : Int) : S71 := xs.getD i.toNat z71
theorem at_T71 {w : World} {A : Option Addr} {n : Nat} {xs : List S71} (h : Kd.C k71 w A n xs) (i : Int) (h0 : 0 ≤ i) (h1 : i < n) : ∃ ad , A = some ad ∧ w.cell? (ad.add (i.toNat * 2)) = some (.int .u64 (rd_T71 xs i).f0.f0) ∧ w.cell? ⟨(ad.add (i.toNat * 2)).block, (ad.add (i.toNat * 2)).off + 1, none⟩ = some (.int .u64 (rd_T71 xs i).f1.f0) := by
  obtain ⟨ad, c, e, _, hK, hc0⟩ := Kd.C_get h z71 i h0 h1
  have hc : ∀ j u, c[j]? = some u → w.cell? (ad.add (i.toNat * 2 + j)) = some u := hc0
  obtain rfl := k71_open hK
  exact ⟨ad, e, hc 0 _ rfl, by rw [← add_field _ _ 1 (by omega)]; exact hc 1 _ rfl⟩

/-! #### struct type 56 -/
structure S56 where
  f0 : Int
  f1 : Int
def z56 : S56 := ⟨(0 : Int), (0 : Int)⟩
def k56 : Kd S56 := Kd.iso (Kd.pair (Kd.int .u64) (Kd.int .u64)) (fun x : S56 => (x.f0, x.f1))
theorem k56_open {w : World} {x : S56} {cs : List Value} (h : k56.K w x cs) : cs = [.int .u64 x.f0, .int .u64 x.f1] := by
  obtain ⟨_, _, rfl, rfl, rfl⟩ := h
  exact rfl
theorem k56_openM {w : World} {base : Nat} {ok : Nat → Prop} {x : S56} {cs : List Value} (h : k56.M w base ok x cs) : cs = [.int .u64 x.f0, .int .u64 x.f1] := by
  obtain ⟨_, _, rfl, rfl, rfl⟩ := h
  exact rfl
theorem k56_mk (w : World) (x : S56)  : k56.K w x [.int .u64 x.f0, .int .u64 x.f1] := ⟨[.int .u64 x.f0], [.int .u64 x.f1], rfl, rfl, rfl⟩
theorem k56_mkM (w : World) (base : Nat) (ok : Nat → Prop) (x : S56)  : k56.M w base ok x [.int .u64 x.f0, .int .u64 x.f1] := ⟨[.int .u64 x.f0], [.int .u64 x.f1], rfl, rfl, rfl⟩
def rd_T56 (xs : List S56) (i : Int) : S56 := xs.getD i.toNat z56
theorem at_T56 {w : World} {A : Option Addr} {n : Nat} {xs : List S56} (h : Kd.C k56 w A n xs) (i : Int) (h0 : 0 ≤ i) (h1 : i < n) : ∃ ad , A = some ad ∧ w.cell? (ad.add (i.toNat * 2)) = some (.int .u64 (rd_T56 xs i).f0) ∧ w.cell? ⟨(ad.add (i.toNat * 2)).block, (ad.add (i.toNat * 2)).off + 1, none⟩ = some (.int .u64 (rd_T56 xs i).f1) := by
  obtain ⟨ad, c, e, _, hK, hc0⟩ := Kd.C_get h z56 i h0 h1
  have hc : ∀ j u, c[j]? = some u → w.cell? (ad.add (i.toNat * 2 + j)) = some u := hc0
  obtain rfl := k56_open hK
  exact ⟨ad, e, hc 0 _ rfl, by rw [← add_field _ _ 1 (by omega)]; exact hc 1 _ rfl⟩

/-! #### struct type 35 -/
structure S35 where
  f0 : Int
  f1 : Int
def z35 : S35 := ⟨(0 : Int), (0 : Int)⟩
def k35 : Kd S35 := Kd.iso (Kd.pair (Kd.int .u64) (Kd.int .u64)) (fun x : S35 => (x.f0, x.f1))
theorem k35_open {w : World} {x : S35} {cs : List Value} (h : k35.K w x cs) : cs = [.int .u64 x.f0, .int .u64 x.f1] := by
  obtain ⟨_, _, rfl, rfl, rfl⟩ := h
  exact rfl
theorem k35_openM {w : World} {base : Nat} {ok : Nat → Prop} {x : S35} {cs : List Value} (h : k35.M w base ok x cs) : cs = [.int .u64 x.f0, .int .u64 x.f1] := by
  obtain ⟨_, _, rfl, rfl, rfl⟩ := h
  exact rfl
theorem k35_mk (w : World) (x : S35)  : k35.K w x [.int .u64 x.f0, .int .u64 x.f1] := ⟨[.int .u64 x.f0], [.int .u64 x.f1], rfl, rfl, rfl⟩
theorem k35_mkM (w : World) (base : Nat) (ok : Nat → Prop) (x : S35)  : k35.M w base ok x [.int .u64 x.f0, .int .u64 x.f1] := ⟨[.int .u64 x.f0], [.int .u64 x.f1], rfl, rfl, rfl⟩
def rd_T35 (xs : List S35) (i : Int) : S35 := xs.getD i.toNat z35
theorem at_T35 {w : World} {A : Option Addr} {n : Nat} {xs : List S35} (h : Kd.C k35 w A n xs) (i : Int) (h0 : 0 ≤ i) (h1 : i < n) : ∃ ad , A = some ad ∧ w.cell? (ad.add (i.toNat * 2)) = some (.int .u64 (rd_T35 xs i).f0) ∧ w.cell? ⟨(ad.add (i.toNat * 2)).block, (ad.add (i.toNat * 2)).off + 1, none⟩ = some (.int .u64 (rd_T35 xs i).f1) := by
  obtain ⟨ad, c, e, _, hK, hc0⟩ := Kd.C_get h z35 i h0 h1
  have hc : ∀ j u, c[j]? = some u → w.cell? (ad.add (i.toNat * 2 + j)) = some u := hc0
  obtain rfl := k35_open hK
  exact ⟨ad, e, hc 0 _ rfl, by rw [← add_field _ _ 1 (by omega)]; exact hc 1 _ rfl⟩

end Go.Proofs.Yticjdbdhnfmidaa.K
