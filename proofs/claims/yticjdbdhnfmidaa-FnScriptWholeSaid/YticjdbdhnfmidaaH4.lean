/-
  The walks of contains and findAddrGreaterEqual of a list of ranges, on fitting lists and addresses from 0 to 1000.
-/
import Derived.Test.YticjdbdhnfmidaaH3
namespace Go.Proofs.Yticjdbdhnfmidaa.K
open Go.RowKit Go.Proofs.YticjdbdhnfmidaaW.PrintWords Go.Proofs.YticjdbdhnfmidaaW.PrintLast Go.Proofs.YticjdbdhnfmidaaW.PrintMore

def inL (L : List S56) (a : Int) : Bool := if succL L a = 0 then false else hasR (getL L (succL L a - 1)) a
def nextL (L : List S56) (a : Int) : Int × Bool :=
  if succL L a = 0 then ((getL L 0).f0, true)
  else if hasR (getL L (succL L a - 1)) a = true then (a, true)
  else if succL L a < L.length then ((getL L (succL L a)).f0, true)
  else (0, false)

set_option maxHeartbeats 1000000 in
theorem contains_c {w : World} {base g gr c : Nat} {cur : Array Value} {L : List S56} {tot : Int} (hs : St w base g gr c cur L tot) (hf : fitL L = true) (a : Int) (a0 : 0 ≤ a) (a1 : a ≤ 1000) :
    Calls Try.prog 37 #[.pointer (some ⟨g, 0, none⟩), .int .u64 a] w fun e w' => e = .returned (.bool (inL L a)) ∧ Below w.heap.size w w' := by
  have hlen := fitL_len hf
  have hle := succL_le L a
  obtain ⟨p, hp⟩ : ∃ p, p = succL L a := ⟨_, rfl⟩
  have HP := Aside0.mk hp
  rw [← hp] at hle
  clear hp
  go_enter Try.func37, Try.ntmps37
  go_wp2_with fail
  refine (findSucc_c hs hf a a0 a1).mono ?_
  rintro e w1 ⟨rfl, hb1⟩
  rw [← HP.out]
  cases p with
  | zero =>
    have HR := Aside0.mk (show inL L a = false by unfold inL; rw [← HP.out]; rfl)
    have HB := Aside0.mk hb1
    clear hb1 hs hf
    go_wp2
    go_ret
    exact ⟨by rw [HR.out]; rfl, HB.out⟩
  | succ q =>
    have HR := Aside0.mk (show inL L a = hasR (getL L q) a by unfold inL; rw [← HP.out]; rfl)
    have hi3 : q < L.length := by omega
    obtain ⟨f0, f1, f2⟩ := fitL_get hf q hi3
    have cS := (hs.below hb1).cellS
    have c0 := (hs.below hb1).cell0 q hi3
    have c1 := (hs.below hb1).cell1 q hi3
    have HB := Aside0.mk hb1
    clear hb1 hs hf
    go_wp2_with (go_at_call 42; refine (has_c _ _ _ _ (by omega) (by omega) (by omega) (by omega) (by omega) (by omega)).mono ?_; rintro e w2 ⟨rfl, hb2⟩)
    go_ret
    exact ⟨by rw [HR.out]; rfl, below_step HB.out hb2⟩

set_option maxHeartbeats 1000000 in
theorem findAddr_c {w : World} {base g gr c : Nat} {cur : Array Value} {L : List S56} {tot : Int} (hs : St w base g gr c cur L tot) (hf : fitL L = true) (h0 : 0 < L.length) (a : Int) (a0 : 0 ≤ a) (a1 : a ≤ 1000) :
    Calls Try.prog 36 #[.pointer (some ⟨g, 0, none⟩), .int .u64 a] w fun e w' => e = .returned (.tuple #[.int .u64 (nextL L a).1, .bool (nextL L a).2]) ∧ Below w.heap.size w w' := by
  have hlen := fitL_len hf
  have hle := succL_le L a
  obtain ⟨p, hp⟩ : ∃ p, p = succL L a := ⟨_, rfl⟩
  have HP := Aside0.mk hp
  rw [← hp] at hle
  clear hp
  go_enter Try.func36, Try.ntmps36
  go_wp2_with fail
  refine (findSucc_c hs hf a a0 a1).mono ?_
  rintro e w1 ⟨rfl, hb1⟩
  rw [← HP.out]
  cases p with
  | zero =>
    have HR := Aside0.mk (show nextL L a = ((getL L 0).f0, true) by unfold nextL; rw [← HP.out]; rfl)
    have cS := (hs.below hb1).cellS
    have c0 := (hs.below hb1).cell0 0 h0
    have c1 := (hs.below hb1).cell1 0 h0
    have HB := Aside0.mk hb1
    clear hb1 hs hf
    go_wp2_with (go_at_call 40; refine (addr_c _ _).mono ?_; rintro e w2 ⟨rfl, hb2⟩)
    go_ret2
    exact ⟨by rw [HR.out]; rfl, below_step HB.out hb2⟩
  | succ q =>
    have hi3 : q < L.length := by omega
    obtain ⟨f0, f1, f2⟩ := fitL_get hf q hi3
    have HS := Aside0.mk (hs.below hb1)
    have cS := (hs.below hb1).cellS
    have c0 := (hs.below hb1).cell0 q hi3
    have c1 := (hs.below hb1).cell1 q hi3
    have HB := Aside0.mk hb1
    clear hb1 hs hf
    by_cases hh : hasR ⟨(getL L q).f0, (getL L q).f1⟩ a = true
    · have HR := Aside0.mk (show nextL L a = (a, true) by unfold nextL; rw [← HP.out, if_neg (by omega)]; exact if_pos hh)
      go_wp2_with (go_at_call 42; refine (has_c _ _ _ _ (by omega) (by omega) (by omega) (by omega) (by omega) (by omega)).mono ?_; rintro e w2 ⟨rfl, hb2⟩)
      go_ret2
      exact ⟨by rw [HR.out]; rfl, below_step HB.out hb2⟩
    · have hh' : hasR ⟨(getL L q).f0, (getL L q).f1⟩ a = false := by simpa using hh
      by_cases hq : q + 1 < L.length
      · have HR := Aside0.mk (show nextL L a = ((getL L (q + 1)).f0, true) by unfold nextL; rw [← HP.out, if_neg (by omega), if_neg (show ¬ hasR (getL L (q + 1 - 1)) a = true from hh), if_pos hq])
        clear hh
        go_wp2_with (first | (go_at_call 42; refine (has_c _ _ _ _ (by omega) (by omega) (by omega) (by omega) (by omega) (by omega)).mono ?_; rintro e w2 ⟨rfl, hb2⟩; have cS2 := (HS.out.below hb2).cellS; have c02 := (HS.out.below hb2).cell0 (q + 1) hq; have c12 := (HS.out.below hb2).cell1 (q + 1) hq; clear cS c0 c1) | (go_at_call 40; refine (addr_c _ _).mono ?_; rintro e w3 ⟨rfl, hb3⟩))
        go_ret2
        exact ⟨by rw [HR.out]; rfl, below_step (below_step HB.out hb2) hb3⟩
      · have HR := Aside0.mk (show nextL L a = (0, false) by unfold nextL; rw [← HP.out, if_neg (by omega), if_neg (show ¬ hasR (getL L (q + 1 - 1)) a = true from hh), if_neg hq])
        clear hh
        go_wp2_with (first | (go_at_call 42; refine (has_c _ _ _ _ (by omega) (by omega) (by omega) (by omega) (by omega) (by omega)).mono ?_; rintro e w2 ⟨rfl, hb2⟩; have cS2 := (HS.out.below hb2).cellS; clear cS c0 c1))
        go_ret2
        exact ⟨by rw [HR.out]; rfl, below_step HB.out hb2⟩

end Go.Proofs.Yticjdbdhnfmidaa.K
