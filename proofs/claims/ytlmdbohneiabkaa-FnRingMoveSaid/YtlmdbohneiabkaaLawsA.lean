/-
  Laws that look at rings: FnRingLen, FnRingPrev, FnRingMove, FnRingNextPrev.
-/
import Derived.Test.YtlmdbohneiabkaaImpl
namespace Go.Proofs.Ytlmdbohneiabkaa
open Go.RowKit

set_option maxHeartbeats 400000 in
theorem fnRingLen_any (v : Value) (zs : List Int) (a : Int) (w : World) (hv : Ints w v zs) (hN : zs.length * 8 ≤ 140737488351232) (_ha : (Lit.int .i64 a).wf = true) :
    Calls Try.prog 8 #[v, .int .i64 a] w fun e w' => e = .returned (.bool true) ∧ Below w.heap.size w w' := by
  have HV := hide hv
  clear hv _ha
  cases hE : elemB zs a with
  | false =>
    have HE := hide hE
    clear hE
    go_enter Try.func8, Try.ntmps8
    go_wp2_with (go_at_call 18; refine (elem_is _ zs _ _ false HE.out HV.out hN).mono ?_; rintro e w1 ⟨rfl, hb1⟩)
    go_ret
    exact ⟨rfl, hb1⟩
  | true =>
    have HE := hide hE
    obtain ⟨hok, k, rfl, hk⟩ := elem_ok hE
    have HO := hide hok
    clear hE hok
    have heq : ((len zs k : Int) == (len zs k : Int)) = true := by simp
    go_enter Try.func8, Try.ntmps8
    go_wp2_with fail
    refine (elem_is _ zs _ _ true HE.out HV.out hN).mono ?_
    rintro e w1 ⟨rfl, hb1⟩
    go_wp2_with fail
    refine (ringLen_any _ zs k _ (HV.out.below hb1) hN HO.out hk).mono ?_
    rintro e w2 ⟨rfl, hb2⟩
    have hb12 := hb1.trans (hb2.mono hb1.size)
    go_wp2_with fail
    refine (cycle_any _ zs k _ (HV.out.below hb12) hN HO.out hk).mono ?_
    rintro e w3 ⟨v3, rfl, hf3, hb3⟩
    obtain ⟨A3, c3, rfl⟩ := hf3.form (cycI_len zs k)
    go_wp2
    go_ret
    exact ⟨rfl, hb12.trans (hb3.mono hb12.size)⟩

set_option maxHeartbeats 400000 in
theorem fnRingPrev_any (v : Value) (zs : List Int) (a : Int) (w : World) (hv : Ints w v zs) (hN : zs.length * 8 ≤ 140737488351232) (_ha : (Lit.int .i64 a).wf = true) :
    Calls Try.prog 9 #[v, .int .i64 a] w fun e w' => e = .returned (.bool true) ∧ Below w.heap.size w w' := by
  have HV := hide hv
  clear hv _ha
  cases hE : elemB zs a with
  | false =>
    have HE := hide hE
    clear hE
    go_enter Try.func9, Try.ntmps9
    go_wp2_with (go_at_call 18; refine (elem_is _ zs _ _ false HE.out HV.out hN).mono ?_; rintro e w1 ⟨rfl, hb1⟩)
    go_ret
    exact ⟨rfl, hb1⟩
  | true =>
    have HE := hide hE
    obtain ⟨hok, k, rfl, hk⟩ := elem_ok hE
    have HO := hide hok
    clear hE hok
    have heq : ((pv zs k : Int) == (pv zs k : Int)) = true := by simp
    go_enter Try.func9, Try.ntmps9
    go_wp2_with fail
    refine (elem_is _ zs _ _ true HE.out HV.out hN).mono ?_
    rintro e w1 ⟨rfl, hb1⟩
    go_wp2_with fail
    refine (ringPrev_any _ zs k _ (HV.out.below hb1) hN HO.out hk).mono ?_
    rintro e w2 ⟨rfl, hb2⟩
    have hb12 := hb1.trans (hb2.mono hb1.size)
    go_wp2_with fail
    refine (before_any _ zs k _ (HV.out.below hb12) hN HO.out hk).mono ?_
    rintro e w3 ⟨rfl, hb3⟩
    go_wp2
    go_ret
    exact ⟨rfl, hb12.trans (hb3.mono hb12.size)⟩

set_option maxHeartbeats 400000 in
theorem fnRingMove_any (v : Value) (zs : List Int) (a n : Int) (w : World) (hv : Ints w v zs) (hN : zs.length * 8 ≤ 140737488351232) (_ha : (Lit.int .i64 a).wf = true) (_hn : (Lit.int .i64 n).wf = true) :
    Calls Try.prog 12 #[v, .int .i64 a, .int .i64 n] w fun e w' => e = .returned (.bool true) ∧ Below w.heap.size w w' := by
  have HV := hide hv
  clear hv _ha _hn
  cases hE : elemB zs a with
  | false =>
    have HE := hide hE
    clear hE
    go_enter Try.func12, Try.ntmps12
    go_wp2_with (go_at_call 18; refine (elem_is _ zs _ _ false HE.out HV.out hN).mono ?_; rintro e w1 ⟨rfl, hb1⟩)
    go_ret
    exact ⟨rfl, hb1⟩
  | true =>
    have HE := hide hE
    obtain ⟨hok, k, rfl, hk⟩ := elem_ok hE
    have HO := hide hok
    clear hE hok
    cases hS : stepsB n with
    | false =>
      have HS := hide hS
      clear hS
      go_enter Try.func12, Try.ntmps12
      go_wp2_with fail
      refine (elem_is _ zs _ _ true HE.out HV.out hN).mono ?_
      rintro e w1 ⟨rfl, hb1⟩
      go_wp2_with fail
      refine (steps_is n _ false HS.out).mono ?_
      rintro e w2 ⟨rfl, rfl⟩
      go_wp2
      go_ret
      exact ⟨rfl, hb1⟩
    | true =>
      have HS := hide hS
      have HB := hide (steps_ok hS)
      clear hS
      have heq : ((mv zs k n : Int) == (mv zs k n : Int)) = true := by simp
      go_enter Try.func12, Try.ntmps12
      go_wp2_with fail
      refine (elem_is _ zs _ _ true HE.out HV.out hN).mono ?_
      rintro e w1 ⟨rfl, hb1⟩
      go_wp2_with fail
      refine (steps_is n _ true HS.out).mono ?_
      rintro e w2 ⟨rfl, rfl⟩
      go_wp2_with fail
      refine (ringMove_any _ zs k n _ (HV.out.below hb1) hN HO.out hk (by have := HB.out; omega)).mono ?_
      rintro e w2 ⟨rfl, hb2⟩
      have hb12 := hb1.trans (hb2.mono hb1.size)
      go_wp2_with fail
      refine (moved_any _ zs k n _ (HV.out.below hb12) hN HO.out hk HB.out).mono ?_
      rintro e w3 ⟨rfl, hb3⟩
      go_wp2
      go_ret
      exact ⟨rfl, hb12.trans (hb3.mono hb12.size)⟩

end Go.Proofs.Ytlmdbohneiabkaa
