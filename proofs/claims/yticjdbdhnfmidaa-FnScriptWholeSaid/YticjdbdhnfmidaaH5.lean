/-
  The walk of outs: the ranges of an addrRanges in memory of the call's own, and its sum.
-/
import Derived.Test.YticjdbdhnfmidaaH4
namespace Go.Proofs.Yticjdbdhnfmidaa.K
open Go.RowKit Go.Proofs.YticjdbdhnfmidaaW.PrintWords Go.Proofs.YticjdbdhnfmidaaW.PrintLast Go.Proofs.YticjdbdhnfmidaaW.PrintMore

theorem take_getL (L : List S56) (i : Nat) (h : i < L.length) : L.take (i + 1) = L.take i ++ [getL L i] := by
  rw [List.take_succ_eq_append_getElem h]
  simp [getL, List.getD_eq_getElem?_getD, h]

set_option maxHeartbeats 1000000 in
theorem outs_c {w : World} {base g gr c : Nat} {cur : Array Value} {L : List S56} {tot : Int} (hs : St w base g gr c cur L tot) (hlen : L.length ≤ 700) :
    Calls Try.prog 31 #[.pointer (some ⟨g, 0, none⟩)] w fun e w' => ∃ v : Value, e = .returned (.tuple #[v, .int .u64 tot]) ∧ Kd.R k56 56 w' w.heap.size (fun _ => True) v L ∧ Below w.heap.size w w' := by
  have cS := hs.cellS
  have HS := Aside0.mk hs
  clear hs
  go_enter Try.func31, Try.ntmps31
  go_wp2
  go_loopw [4, 12] (fun v i wr => ∃ k : Nat, i = .int .i64 k ∧ k ≤ L.length ∧ Aside0 (Kd.R k56 56 wr w.heap.size (fun _ => True) v (L.take k)) ∧ Aside0 (Below w.heap.size w wr)) (fun _ i _ => L.length - (intOf i).toNat)
  case atStart => exact ⟨0, rfl, Nat.zero_le _, ⟨Kd.R_nil _ _ _ _ _⟩, ⟨Below.refl _ _⟩⟩
  case round =>
    clear cS
    obtain ⟨k, rfl, hk, HO, HB⟩ := hrel
    by_cases hlt : k < L.length
    · have c0 := (HS.out.below HB.out).cell0 k hlt
      have c1 := (HS.out.below HB.out).cell1 k hlt
      go_wp2_with fail
      refine (out_c _ _ _).mono ?_
      rintro e w2 ⟨rfl, hb2⟩
      have HB2 := Aside0.mk (below_step (below_alloc HB.out _) hb2)
      have HO2 := Aside0.mk (Kd.R_below (Kd.R_alloc HO.out _) hb2)
      have HT := Aside0.mk (take_getL L k hlt)
      clear hb2 HO c0 c1
      go_wp2_with ((with_reducible refine gate_builtin (b := .append) (xs := #[.tmp 16, .tmp 19]) rfl ?_); at_builtin; refine Kd.R_append k56 (w0 := w) w.heap.size rfl (.tmp 16) (.tmp 19) 52 56 (.agg #[(.int .u64 0), (.int .u64 0)]) 16 rfl Try.underlying52 info56 rfl (by decide) (by omega) u4 (L.take k) (getL L k) [.int .u64 (getL L k).f0, .int .u64 (getL L k).f1] (fun _ => True) (fun _ => False) rfl (by first | (go_simp; done) | (go_simp; rfl)) ?aP (fun _ hk => hk.elim) (fun _ _ => trivial) ?aO ?aB ?aS ?aL ?_; (case aP => exact k56_mkM _ _ _ (getL L k)); (case aB => exact HB2.out); (case aO => exact HO2.out); (case aS => exact below_size HB2.out); (case aL => rw [List.length_take]; omega); intro v153 w8 ho hb hg hat; rw [← HT.out] at ho; have HO3 := Aside0.mk ho; have HB3 := Aside0.mk hb; clear ho hb hg hat HO2 HB2)
      go_roundw
      case rel => exact ⟨k + 1, by go_num, by omega, HO3, HB3⟩
      case measure => simp [intOf]; omega
    · have hk' : k = L.length := by omega
      have HO4 := Aside0.mk (show Kd.R k56 56 wr w.heap.size (fun _ => True) u4 L by have := HO.out; rwa [hk', List.take_length] at this)
      have cT := (HS.out.below HB.out).cellT
      clear HO hk'
      go_wp2
      go_quiet (fail)
      go_wp2
      go_ret2
      exact ⟨_, rfl, Kd.R_drewN HO4.out _, pw_below_drewN HB.out _⟩
end Go.Proofs.Yticjdbdhnfmidaa.K
