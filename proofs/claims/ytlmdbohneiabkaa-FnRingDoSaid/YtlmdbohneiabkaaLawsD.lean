/-
  RingDo, FnRingDo; RingEmpty, FnRingEmpty.
-/
import Derived.Test.YtlmdbohneiabkaaBuild
import Derived.Test.YtlmdbohneiabkaaDo
import Derived.Test.YtlmdbohneiabkaaSame
namespace Go.Proofs.Ytlmdbohneiabkaa
open Go.RowKit

set_option maxHeartbeats 400000 in
theorem ringDo_any (v : Value) (zs : List Int) (a : Nat) (w : World) (hv : Ints w v zs) (hN : zs.length * 8 ≤ 140737488351232) (hok : RingsOk zs) (ha : a < zs.length) :
    Calls Try.prog 25 #[v, .int .i64 a] w fun e w' => ∃ v', e = .returned v' ∧ Fresh w.heap.size w' v' (cycI zs a) ∧ Below w.heap.size w w' := by
  have HV := hide hv
  have HO := hide hok
  clear hv hok
  go_enter Try.func25, Try.ntmps25
  go_wp2_with fail
  refine (build_any _ zs _ HV.out hN HO.out).mono ?_
  rintro e w1 ⟨rfl, ad, hr, hgt, hrow, hbel⟩
  have hca := hrow.cell ha
  have HR := hide hr
  clear hr hgt hrow
  go_wp2_with fail
  refine (visited_any _ zs.length ad (nx zs) (pv zs) a HR.out HO.out.perm ha hN).mono ?_
  rintro e w2 ⟨v2, rfl, hf2, hb2⟩
  obtain ⟨A2, c2, rfl⟩ := hf2.form rfl
  go_wp2
  go_ret
  exact ⟨_, rfl, hf2.mono hbel.size, hbel.trans (hb2.mono hbel.size)⟩

set_option maxHeartbeats 400000 in
theorem fnRingDo_any (v : Value) (zs : List Int) (a : Int) (w : World) (hv : Ints w v zs) (hN : zs.length * 8 ≤ 140737488351232) (_ha : (Lit.int .i64 a).wf = true) :
    Calls Try.prog 10 #[v, .int .i64 a] w fun e w' => e = .returned (.bool true) ∧ Below w.heap.size w w' := by
  have HV := hide hv
  clear hv _ha
  cases hE : elemB zs a with
  | false =>
    have HE := hide hE
    clear hE
    go_enter Try.func10, Try.ntmps10
    go_wp2_with (go_at_call 18; refine (elem_is _ zs _ _ false HE.out HV.out hN).mono ?_; rintro e w1 ⟨rfl, hb1⟩)
    go_ret
    exact ⟨rfl, hb1⟩
  | true =>
    have HE := hide hE
    obtain ⟨hok, k, rfl, hk⟩ := elem_ok hE
    have HO := hide hok
    have hl := hok.len_le hk
    clear hE hok
    go_enter Try.func10, Try.ntmps10
    go_wp2_with fail
    refine (elem_is _ zs _ _ true HE.out HV.out hN).mono ?_
    rintro e w1 ⟨rfl, hb1⟩
    go_wp2_with fail
    refine (ringDo_any _ zs k _ (HV.out.below hb1) hN HO.out hk).mono ?_
    rintro e w2 ⟨v2, rfl, hf2, hb2⟩
    have B2 := hb1.trans (hb2.mono hb1.size)
    have H2 := hide hf2.ints
    obtain ⟨A2, c2, rfl⟩ := hf2.form rfl
    clear hf2 hb1 hb2
    go_wp2_with fail
    refine (cycle_any _ zs k _ (HV.out.below B2) hN HO.out hk).mono ?_
    rintro e w3 ⟨v3, rfl, hf3, hb3⟩
    have B3 := B2.trans (hb3.mono B2.size)
    have H3 := hide hf3.ints
    have H2' := hide (H2.out.below hb3)
    obtain ⟨A3, c3, rfl⟩ := hf3.form rfl
    clear hf3 hb3 B2
    go_wp2_with fail
    refine (same_true _ _ (cycI zs k) _ H2'.out H3.out (by rw [cycI_len]; omega)).mono ?_
    rintro e w4 ⟨rfl, hb4⟩
    go_wp2
    go_ret
    exact ⟨rfl, B3.trans (hb4.mono B3.size)⟩

theorem len_nil (w : World) :
    Calls Try.prog 30 #[.pointer none] w fun e w' => e = .returned (.int .i64 0) ∧ w = w' := by
  go_enter Try.func30, Try.ntmps30
  go_wp2
  go_ret
  exact ⟨rfl, rfl⟩

set_option maxHeartbeats 400000 in
theorem ringEmpty_any (w : World) :
    Calls Try.prog 29 #[] w fun e w' => e = .returned (.tuple #[.int .i64 0, .int .i64 0]) ∧ Below w.heap.size w w' := by
  go_enter Try.func29, Try.ntmps29
  go_wp2_with (first
    | (go_at_call 30; refine (len_nil _).mono ?_; rintro e w1 ⟨rfl, rfl⟩)
    | (go_at_call 38; refine (visited_nil _).mono ?_; rintro e w1 ⟨A1, c1, rfl, hb1⟩))
  go_ret2
  exact ⟨rfl, hb1⟩

set_option maxHeartbeats 400000 in
theorem fnRingEmpty_any (w : World) :
    Calls Try.prog 13 #[] w fun e w' => e = .returned (.bool true) ∧ Below w.heap.size w w' := by
  go_enter Try.func13, Try.ntmps13
  go_wp2_with fail
  refine (ringEmpty_any _).mono ?_
  rintro e w1 ⟨rfl, hb1⟩
  go_wp2_with fail
  refine (ringNew_int 3 3 _ rfl (by omega) (by omega)).mono ?_
  rintro e w2 ⟨v2, rfl, hf2, hb2⟩
  obtain ⟨A2, c2, rfl⟩ := hf2.form (nums_len _ _)
  go_wp2
  go_ret
  exact ⟨rfl, hb1.trans (hb2.mono hb1.size)⟩

end Go.Proofs.Ytlmdbohneiabkaa
