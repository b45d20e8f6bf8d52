/-
  FnRingMoveSum.
-/
import Derived.Test.YtlmdbohneiabkaaMv
import Derived.Test.YtlmdbohneiabkaaLI
namespace Go.Proofs.Ytlmdbohneiabkaa
open Go.RowKit

set_option maxHeartbeats 2000000 in
theorem fnRingMoveSum_any (v : Value) (zs : List Int) (a n m : Int) (w : World) (hv : Ints w v zs) (hN : zs.length * 8 ≤ 140737488351232) (_ha : (Lit.int .i64 a).wf = true) (_hn : (Lit.int .i64 n).wf = true) (_hm : (Lit.int .i64 m).wf = true) :
    Calls Try.prog 14 #[v, .int .i64 a, .int .i64 n, .int .i64 m] w fun e w' => e = .returned (.bool true) ∧ Below w.heap.size w w' := by
  have HV := hide hv
  clear _ha _hn _hm
  cases hE : elemB zs a with
  | false =>
    have HE := hide hE
    clear hE hv
    go_enter Try.func14, Try.ntmps14
    go_wp2_with (go_at_call 18; refine (elem_is _ zs _ _ false HE.out HV.out hN).mono ?_; rintro e w1 ⟨rfl, hb1⟩)
    go_ret
    exact ⟨rfl, hb1⟩
  | true =>
    have HE := hide hE
    obtain ⟨hok, k, rfl, hk⟩ := elem_ok hE
    have HO := hide hok
    cases hS : stepsB n with
    | false =>
      have HS := hide hS
      clear hS hE hok hv
      go_enter Try.func14, Try.ntmps14
      go_wp2_with fail
      refine (elem_is _ zs _ _ true HE.out HV.out hN).mono ?_
      rintro e w1 ⟨rfl, hb1⟩
      go_wp2_with fail
      refine (steps_is n _ false HS.out).mono ?_
      rintro e w2 ⟨rfl, rfl⟩
      go_wp2
      go_ret
      exact ⟨rfl, hb1⟩
    | true =>
      have HS := hide hS
      obtain ⟨n1, n2⟩ := steps_ok hS
      cases hS2 : stepsB m with
      | false =>
        have HS2 := hide hS2
        clear hS hE hok hv hS2
        go_enter Try.func14, Try.ntmps14
        go_wp2_with fail
        refine (elem_is _ zs _ _ true HE.out HV.out hN).mono ?_
        rintro e w1 ⟨rfl, hb1⟩
        go_wp2_with fail
        refine (steps_is n _ true HS.out).mono ?_
        rintro e w2 ⟨rfl, rfl⟩
        go_wp2_with fail
        refine (steps_is m _ false HS2.out).mono ?_
        rintro e w2 ⟨rfl, rfl⟩
        go_wp2
        go_ret
        exact ⟨rfl, hb1⟩
      | true =>
        have HS2 := hide hS2
        obtain ⟨m1, m2⟩ := steps_ok hS2
        cases hS3 : stepsB (n + m) with
        | false =>
          have HS3 := hide hS3
          clear hS hE hok hv hS2 hS3
          go_enter Try.func14, Try.ntmps14
          go_wp2_with fail
          refine (elem_is _ zs _ _ true HE.out HV.out hN).mono ?_
          rintro e w1 ⟨rfl, hb1⟩
          go_wp2_with fail
          refine (steps_is n _ true HS.out).mono ?_
          rintro e w2 ⟨rfl, rfl⟩
          go_wp2_with fail
          refine (steps_is m _ true HS2.out).mono ?_
          rintro e w2 ⟨rfl, rfl⟩
          go_wp2_with fail
          refine (steps_is (n + m) _ false HS3.out).mono ?_
          rintro e w2 ⟨rfl, rfl⟩
          go_wp2
          go_ret
          exact ⟨rfl, hb1⟩
        | true =>
          have HS3 := hide hS3
          obtain ⟨s1, s2⟩ := steps_ok hS3
          have hbl := mv_lt hok hk n
          have hEb : elemB zs (mv zs k n : Int) = true := by
            unfold elemB at hE ⊢
            simp only [Bool.and_eq_true, decide_eq_true_eq] at hE ⊢
            exact ⟨hE.1, by omega, by omega⟩
          have K1 : Hid (∀ (x : World) (hx : Below w.heap.size w x) (u : LIw x), Calls Try.prog 18 #[v, .int .i64 (mv zs k n : Int)] u.w fun e w' => e = .returned (.bool true) ∧ ∃ u' : LIw x, w' = u'.w) :=
            fun x hx => li_of fun u hu => elem_is v zs _ u true hEb ((HV.out.below hx).below hu) hN
          have K2 : Hid (∀ (x : World) (hx : Below w.heap.size w x) (u : LIw x), Calls Try.prog 27 #[v, .int .i64 (mv zs k n : Int), .int .i64 m] u.w fun e w' => e = .returned (.int .i64 (mv zs k (n + m))) ∧ ∃ u' : LIw x, w' = u'.w) :=
            fun x hx => li_of fun u hu => by rw [← mv_add hok hk]; exact ringMove_any v zs _ m u ((HV.out.below hx).below hu) hN hok hbl (by omega)
          have K3 : Hid (∀ (x : World) (hx : Below w.heap.size w x) (u : LIw x), Calls Try.prog 27 #[v, .int .i64 (k : Int), .int .i64 (n + m)] u.w fun e w' => e = .returned (.int .i64 (mv zs k (n + m))) ∧ ∃ u' : LIw x, w' = u'.w) :=
            fun x hx => li_of fun u hu => ringMove_any v zs k (n + m) u ((HV.out.below hx).below hu) hN hok hk (by omega)
          have K4 : Hid (∀ (x : World) (hx : Below w.heap.size w x) (u : LIw x), Calls Try.prog 27 #[v, .int .i64 (k : Int), .int .i64 1] u.w fun e w' => e = .returned (.int .i64 (nx zs k)) ∧ ∃ u' : LIw x, w' = u'.w) :=
            fun x hx => li_of fun u hu => by rw [← mv_one hok hk]; exact ringMove_any v zs k 1 u ((HV.out.below hx).below hu) hN hok hk (by omega)
          have K5 : Hid (∀ (x : World) (hx : Below w.heap.size w x) (u : LIw x), Calls Try.prog 27 #[v, .int .i64 (k : Int), .int .i64 (-1)] u.w fun e w' => e = .returned (.int .i64 (pv zs k)) ∧ ∃ u' : LIw x, w' = u'.w) :=
            fun x hx => li_of fun u hu => by rw [← mv_neg_one hok hk]; exact ringMove_any v zs k (-1) u ((HV.out.below hx).below hu) hN hok hk (by omega)
          have K6 : Hid (∀ (x : World) (hx : Below w.heap.size w x) (u : LIw x), Calls Try.prog 22 #[v, .int .i64 (k : Int)] u.w fun e w' => e = .returned (.int .i64 (pv zs k)) ∧ ∃ u' : LIw x, w' = u'.w) :=
            fun x hx => li_of fun u hu => ringPrev_any v zs k u ((HV.out.below hx).below hu) hN hok hk
          obtain ⟨b, hbv⟩ : ∃ b, mv zs k n = b := ⟨_, rfl⟩
          obtain ⟨t, htv⟩ : ∃ t, mv zs k (n + m) = t := ⟨_, rfl⟩
          obtain ⟨x, hxv⟩ : ∃ x, nx zs k = x := ⟨_, rfl⟩
          obtain ⟨y, hyv⟩ : ∃ y, pv zs k = y := ⟨_, rfl⟩
          have HBV := hide hbv
          rw [hbv] at K1 K2
          rw [htv] at K2 K3
          rw [hxv] at K4
          rw [hyv] at K5 K6
          obtain ⟨A, c, rfl⟩ := hv.form rfl
          obtain ⟨bb, off, rfl, hb, hcell⟩ := hv.open_.2.2.2 (by omega)
          have hck : w.cell? ⟨bb, off + k, none⟩ = some (.int .i64 (x : Int)) := by rw [hcell k hk, hok.nx_eq hk, hxv]
          have HCK := hide hck
          have e1 : ((t : Int) == (t : Int)) = true := by simp
          have e2 : ((x : Int) == (x : Int)) = true := by simp
          have e3 : ((y : Int) == (y : Int)) = true := by simp
          have g1 : (0 : Int) ≤ (k : Int) := by omega
          have g2 : (k : Int) < (zs.length : Int) := by omega
          clear hS hE hok hv hS2 hS3 hbv htv hxv hyv hcell hck hbl hEb
          go_enter Try.func14, Try.ntmps14
          go_wp2_with fail
          refine (elem_is _ zs _ _ true HE.out HV.out hN).mono ?_
          rintro e w1 ⟨rfl, hb1⟩
          go_wp2_with fail
          refine (steps_is n _ true HS.out).mono ?_
          rintro e w2 ⟨rfl, rfl⟩
          go_wp2_with fail
          refine (steps_is m _ true HS2.out).mono ?_
          rintro e w2 ⟨rfl, rfl⟩
          go_wp2_with fail
          refine (steps_is (n + m) _ true HS3.out).mono ?_
          rintro e w2 ⟨rfl, rfl⟩
          go_wp2_with fail
          refine (ringMove_any _ zs k n _ (HV.out.below hb1) hN HO.out hk (by omega)).mono ?_
          rintro e w2 ⟨rfl, hb2⟩
          rw [HBV.out]
          have B2 := hb1.trans (hb2.mono hb1.size)
          clear hb1 hb2
          have hcu := li_cell ((B2.cell (p := ⟨bb, off + k, none⟩) hb).trans HCK.out) (Nat.lt_of_lt_of_le hb B2.size)
          have L1 := hide (K1.out w2 B2)
          have L2 := hide (K2.out w2 B2)
          have L3 := hide (K3.out w2 B2)
          have L4 := hide (K4.out w2 B2)
          have L5 := hide (K5.out w2 B2)
          have L6 := hide (K6.out w2 B2)
          have HB2 := hide B2
          have hw : IntKind.i64.wrap (n + m) = n + m := IntWalk.i64_in _ (by omega)
          clear K1 K2 K3 K4 K5 K6 B2
          go_wp2
          refine wp_region_li w2 (by kernel_rfl) (by kernel_rfl) (Below.refl _ _) ?_
          repeat (go_big_quiet_step (first
            | (go_at_call 18; exact L1.out _)
            | (go_at_call 22; exact L6.out _)
            | (go_at_call 27; with_reducible exact L2.out _)
            | (go_at_call 27; with_reducible exact L3.out _)
            | (go_at_call 27; with_reducible exact L4.out _)
            | (go_at_call 27; with_reducible exact L5.out _)))
          refine wpQuiet_nil ?_
          rintro _ ⟨u, rfl⟩
          go_wp2
          go_ret
          exact ⟨rfl, HB2.out.trans (u.bel.mono HB2.out.size)⟩

end Go.Proofs.Ytlmdbohneiabkaa
