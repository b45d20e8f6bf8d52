/-
  Laws: FnRingUnlinkLen.
-/
import Derived.Test.YtclgdlpnjdogbaaSub
namespace Go.Proofs.Ytclgdlpnjdogbaa
open Go.RowKit

theorem take_act {P : Program} {md : Region.Mode} {ops : Array Oper} {Q : Exit → Act → World → Prop} {i : Nat} {oi : Oper} {v : Value} {fuel : Nat} {listed : Array Bool} {a a' : Act} {w : World} (hi : ops[i]? = some oi)
    (hs : Region.noSelect ops = true) (hf : Region.free md ops listed i = true) (hr : (Region.ready md ops listed).contains i = true)
    (hQ : ∀ c a w, Q (.panic c) (a.put oi.dst v) w → Q (.panic c) a w) (hy : Yields P ops oi v a) (ha : a.put oi.dst v = a')
    (h : wpAny P md ops Q fuel (listed.setIfInBounds i true) a' w) : wpAny P md ops Q (fuel + 1) listed a w := wpAny_take hi hs hf hr hQ hy (ha ▸ h)

set_option maxHeartbeats 4000000 in
theorem fnRingUnlinkLen_any (v : Value) (zs : List Int) (a : Int) (n : Int) (w : World) (hv : Ints w v zs) (hN : zs.length * 8 ≤ 140737488351232) (_ha : (Lit.int .i64 a).wf = true) (_hn : (Lit.int .i64 n).wf = true) :
    Calls Try.prog 14 #[v, .int .i64 a, .int .i64 n] w fun e w' => e = .returned (.bool true) ∧ Below w.heap.size w w' := by
  have HV := hide hv
  clear _ha _hn
  cases hE : elemB zs a with
  | false =>
    have HE := hide hE
    clear hE hv
    have BT : Hid (Below w.heap.size w w) := Below.refl _ _
    go_enter Try.func14, Try.ntmps14
    go_wp2_with fail
    refine (elem_is _ zs _ _ false HE.out HV.out hN).mono ?_
    rintro e w1 ⟨rfl, hb⟩
    replace HV := hide (HV.out.below hb)
    replace BT := hide (BT.out.trans (hb.mono BT.out.size))
    clear hb
    go_wp2
    go_ret
    exact ⟨rfl, BT.out⟩
  | true =>
    have HE := hide hE
    obtain ⟨hok, aN, rfl, hka⟩ := elem_ok hE
    have HO := hide hok
    by_cases hlo : n < 1
    · clear hE hok hv
      have BT : Hid (Below w.heap.size w w) := Below.refl _ _
      go_enter Try.func14, Try.ntmps14
      go_wp2_with fail
      refine (elem_is _ zs _ _ true HE.out HV.out hN).mono ?_
      rintro e w2 ⟨rfl, hb⟩
      replace HV := hide (HV.out.below hb)
      replace BT := hide (BT.out.trans (hb.mono BT.out.size))
      clear hb
      go_wp2
      go_ret
      exact ⟨rfl, BT.out⟩
    by_cases hhi : 100000 < n
    · clear hE hok hv
      have BT : Hid (Below w.heap.size w w) := Below.refl _ _
      go_enter Try.func14, Try.ntmps14
      go_wp2_with fail
      refine (elem_is _ zs _ _ true HE.out HV.out hN).mono ?_
      rintro e w3 ⟨rfl, hb⟩
      replace HV := hide (HV.out.below hb)
      replace BT := hide (BT.out.trans (hb.mono BT.out.size))
      clear hb
      go_wp2
      go_ret
      exact ⟨rfl, BT.out⟩
    have hp := hok.len_pos hka
    have hll := hok.len_le hka
    have hr0 := Int.emod_nonneg n (show (len zs aN : Int) ≠ 0 by omega)
    have hr1 := Int.emod_lt_of_pos n (show (0 : Int) < (len zs aN : Int) by omega)
    obtain ⟨k, hk⟩ : ∃ k : Nat, n % (len zs aN : Int) = k := ⟨(n % (len zs aN : Int)).toNat, by omega⟩
    have hkp : k < len zs aN := by omega
    have hp0 : ((len zs aN : Int) == 0) = false := by simp; omega
    have hnn0 : 0 ≤ n := by omega
    rcases Nat.eq_zero_or_pos k with rfl | hk0
    · have hkk : n % (len zs aN : Int) = 0 := by simpa using hk
      clear hE hok hv hk hr0 hr1
      have BT : Hid (Below w.heap.size w w) := Below.refl _ _
      go_enter Try.func14, Try.ntmps14
      go_wp2_with fail
      refine (elem_is _ zs _ _ true HE.out HV.out hN).mono ?_
      rintro e w4 ⟨rfl, hb⟩
      replace HV := hide (HV.out.below hb)
      replace BT := hide (BT.out.trans (hb.mono BT.out.size))
      clear hb
      go_wp2_with fail
      refine (cycle_any _ zs aN _ HV.out hN HO.out hka).mono ?_
      rintro e w5 ⟨vC, rfl, hf, hb⟩
      replace HV := hide (HV.out.below hb)
      replace BT := hide (BT.out.trans (hb.mono BT.out.size))
      clear hb
      have HC := hide hf.ints
      obtain ⟨AC, cC, rfl⟩ := hf.form (cycI_len zs aN)
      clear hf
      go_wp2
      go_ret
      exact ⟨rfl, BT.out⟩
    have hbl := mv_lt hok hka (n + 1)
    have hmr := mv_rem hok hka hk
    have hok2 := linkI_ok hok hka hbl
    have hl2 := linkI_len zs aN (mv zs aN (n + 1))
    have hnl := hok.nx_lt hka
    have HE3 := hide (elem_ok' hok2 (k := nx zs aN) (by rw [hl2]; exact hnl))
    obtain ⟨e1, e2, e3, e4⟩ := one_two hok hka (m := k + 1) (by omega) (by omega) hmr.symm
    rw [show len zs aN - (k + 1) + 1 = len zs aN - k by omega] at e1
    rw [Nat.add_sub_cancel] at e2 e4
    have hec : cycI (linkI zs aN (mv zs aN (n + 1))) (nx zs aN) = nums (fun j => orb zs aN (j + 1)) k := by unfold cycI; rw [e2]; exact nums_congr e4
    obtain ⟨zs2, hz2⟩ : ∃ z, linkI zs aN (mv zs aN (n + 1)) = z := ⟨_, rfl⟩
    obtain ⟨y, hy⟩ : ∃ y, nx zs aN = y := ⟨_, rfl⟩
    obtain ⟨p, hpp⟩ : ∃ p, len zs aN = p := ⟨_, rfl⟩
    have HZ2 := hide hz2
    have HY := hide hy
    have HP := hide hpp
    rw [hz2] at hok2 hl2 HE3 e1 e2 e3 hec
    rw [hy] at HE3 hnl e2 e3 hec
    rw [hpp] at e1 hk hkp hp hll hp0
    have HO2 := hide hok2
    have HL2 := hide hl2
    have HI2 := hide e3
    have HA1 := hide e1
    have HA2 := hide e2
    have HEC := hide hec
    have hnn : ((zs.length : Int) == (zs.length : Int)) = true := by simp
    obtain ⟨A, c, rfl⟩ := hv.form rfl
    have hk1 : ((k : Int) == 0) = false := by simp; omega
    clear hE hok hv hok2 hl2 hz2 hy hr0 hr1 hbl hmr e1 e2 e3 e4 hec hpp
    have BT : Hid (Below w.heap.size w w) := Below.refl _ _
    go_enter Try.func14, Try.ntmps14
    go_wp2_with fail
    refine (elem_is _ zs _ _ true HE.out HV.out hN).mono ?_
    rintro e w6 ⟨rfl, hb⟩
    replace HV := hide (HV.out.below hb)
    replace BT := hide (BT.out.trans (hb.mono BT.out.size))
    clear hb
    go_wp2_with fail
    refine (cycle_any _ zs aN _ HV.out hN HO.out hka).mono ?_
    rintro e w7 ⟨vC, rfl, hf, hb⟩
    replace HV := hide (HV.out.below hb)
    replace BT := hide (BT.out.trans (hb.mono BT.out.size))
    clear hb
    have HC := hide hf.ints
    obtain ⟨AC, cC, rfl⟩ := hf.form ((cycI_len zs aN).trans HP.out)
    clear hf
    go_wp2_with fail
    refine (cycle_any _ zs aN _ HV.out hN HO.out hka).mono ?_
    rintro e w8 ⟨vD, rfl, hf, hb⟩
    replace HV := hide (HV.out.below hb)
    replace HC := hide (HC.out.below hb)
    replace BT := hide (BT.out.trans (hb.mono BT.out.size))
    clear hb
    have HD := hide hf.ints
    obtain ⟨AD, cD, rfl⟩ := hf.form ((cycI_len zs aN).trans HP.out)
    clear hf
    go_wp2_with fail
    refine (ringUnlink_any _ zs aN n _ HV.out hN HO.out hka (by omega) (by omega)).mono ?_
    rintro e w9 ⟨vX, rfl, hf, hb⟩
    replace HV := hide (HV.out.below hb)
    replace HC := hide (HC.out.below hb)
    replace HD := hide (HD.out.below hb)
    replace BT := hide (BT.out.trans (hb.mono BT.out.size))
    clear hb
    have HX := hide hf.ints
    obtain ⟨AX, cX, rfl⟩ := hf.form (linkI_len _ _ _)
    clear hf
    rw [HZ2.out] at HX
    rw [HY.out]
    have hp1 : ¬ (p : Int) = 0 := by omega
    have htm : Int.tmod n (p : Int) = (k : Int) := by rw [Int.tmod_eq_emod_of_nonneg hnn0]; exact hk
    have hw1 : IntKind.i64.wrap (k : Int) = (k : Int) := IntWalk.i64_in _ (by omega)
    have hw2 : IntKind.i64.wrap ((k : Int) + 1) = (k : Int) + 1 := IntWalk.i64_in _ (by omega)
    have hw3 : IntKind.i64.wrap ((p : Int) - (k : Int)) = (p : Int) - (k : Int) := IntWalk.i64_in _ (by omega)
    have hq1 : (((p - k : Nat) : Int) == (p : Int) - (k : Int)) = true := by simp; omega
    have hq2 : ((k : Int) == (k : Int)) = true := by simp
    go_wp2_with fail
    replace HV := hide (HV.out.below (Below.refl _ _).drew)
    replace HX := hide (HX.out.below (Below.refl _ _).drew)
    replace BT := hide BT.out.drew
    refine wp_region_any (by kernel_rfl) ?_
    change wpAny _ _ _ _ _ _ _ (World.drew _)
    refine take_act (i := 0) (v := .slice AX zs.length cX) (a' := ?a0) rfl (by kernel_rfl) (by kernel_rfl) (by kernel_rfl) (fun _ _ _ h => h) (Or.inl ⟨by rfl, ?y0⟩) ?b0 ?_
    case y0 => intro w; go_simp
    case b0 => go_simp; with_reducible rfl
    refine take_act (i := 1) (v := .int .i64 (y : Int)) (a' := ?a1) rfl (by kernel_rfl) (by kernel_rfl) (by kernel_rfl) (fun _ _ _ h => h) (Or.inl ⟨by rfl, ?y1⟩) ?b1 ?_
    case y1 => intro w; go_simp
    case b1 => go_simp; with_reducible rfl
    refine wpAny_ready (rs := [2]) (by kernel_rfl) (by simp) ?_
    refine AllReady.cons rfl (fun K hK => ?_) AllReady.nil
    go_simp
    go_wp2_with (go_at_call 15; refine (elem_is _ zs2 _ _ true HE3.out HX.out (by rw [HL2.out]; exact hN)).mono ?_; rintro e wn ⟨rfl, hb⟩; replace HV := hide (HV.out.below hb); replace HX := hide (HX.out.below hb); replace BT := hide (BT.out.trans (hb.mono BT.out.size)); clear hb)
    refine take_act (i := 3) (v := .bool true) (a' := ?a3) rfl (by kernel_rfl) (by kernel_rfl) (by kernel_rfl) (fun _ _ _ h => h) (Or.inl ⟨by rfl, ?y3⟩) ?b3 ?_
    case y3 => intro w; go_simp
    case b3 => go_simp; with_reducible rfl
    refine take_act (i := 4) (v := .slice AX zs.length cX) (a' := ?a4) rfl (by kernel_rfl) (by kernel_rfl) (by kernel_rfl) (fun _ _ _ h => h) (Or.inl ⟨by rfl, ?y4⟩) ?b4 ?_
    case y4 => intro w; go_simp
    case b4 => go_simp; with_reducible rfl
    refine take_act (i := 5) (v := .int .i64 (zs.length : Int)) (a' := ?a5) rfl (by kernel_rfl) (by kernel_rfl) (by kernel_rfl) (fun _ _ _ h => h) (Or.inl ⟨by rfl, ?y5⟩) ?b5 ?_
    case y5 => intro w; go_simp
    case b5 => go_simp; with_reducible rfl
    refine take_act (i := 6) (v := .slice A zs.length c) (a' := ?a6) rfl (by kernel_rfl) (by kernel_rfl) (by kernel_rfl) (fun _ _ _ h => h) (Or.inl ⟨by rfl, ?y6⟩) ?b6 ?_
    case y6 => intro w; go_simp
    case b6 => go_simp; with_reducible rfl
    refine take_act (i := 7) (v := .int .i64 (zs.length : Int)) (a' := ?a7) rfl (by kernel_rfl) (by kernel_rfl) (by kernel_rfl) (fun _ _ _ h => h) (Or.inl ⟨by rfl, ?y7⟩) ?b7 ?_
    case y7 => intro w; go_simp
    case b7 => go_simp; with_reducible rfl
    refine take_act (i := 8) (v := .bool true) (a' := ?a8) rfl (by kernel_rfl) (by kernel_rfl) (by kernel_rfl) (fun _ _ _ h => h) (Or.inl ⟨by rfl, ?y8⟩) ?b8 ?_
    case y8 => intro w; go_simp
    case b8 => go_simp; with_reducible rfl
    refine take_act (i := 9) (v := .bool true) (a' := ?a9) rfl (by kernel_rfl) (by kernel_rfl) (by kernel_rfl) (fun _ _ _ h => h) (Or.inl ⟨by rfl, ?y9⟩) ?b9 ?_
    case y9 => intro w; go_simp
    case b9 => go_simp; with_reducible rfl
    refine take_act (i := 10) (v := .bool true) (a' := ?a10) rfl (by kernel_rfl) (by kernel_rfl) (by kernel_rfl) (fun _ _ _ h => h) (Or.inl ⟨by rfl, ?y10⟩) ?b10 ?_
    case y10 => intro w; go_simp
    case b10 => go_simp; with_reducible rfl
    refine take_act (i := 11) (v := .slice AX zs.length cX) (a' := ?a11) rfl (by kernel_rfl) (by kernel_rfl) (by kernel_rfl) (fun _ _ _ h => h) (Or.inl ⟨by rfl, ?y11⟩) ?b11 ?_
    case y11 => intro w; go_simp
    case b11 => go_simp; with_reducible rfl
    refine take_act (i := 12) (v := .int .i64 (aN : Int)) (a' := ?a12) rfl (by kernel_rfl) (by kernel_rfl) (by kernel_rfl) (fun _ _ _ h => h) (Or.inl ⟨by rfl, ?y12⟩) ?b12 ?_
    case y12 => intro w; go_simp
    case b12 => go_simp; with_reducible rfl
    refine take_act (i := 14) (v := .int .i64 (p : Int)) (a' := ?a14) rfl (by kernel_rfl) (by kernel_rfl) (by kernel_rfl) (fun _ _ _ h => h) (Or.inl ⟨by rfl, ?y14⟩) ?b14 ?_
    case y14 => intro w; go_simp
    case b14 => go_simp; with_reducible rfl
    refine take_act (i := 15) (v := .int .i64 n) (a' := ?a15) rfl (by kernel_rfl) (by kernel_rfl) (by kernel_rfl) (fun _ _ _ h => h) (Or.inl ⟨by rfl, ?y15⟩) ?b15 ?_
    case y15 => intro w; go_simp
    case b15 => go_simp; with_reducible rfl
    refine take_act (i := 16) (v := .int .i64 (p : Int)) (a' := ?a16) rfl (by kernel_rfl) (by kernel_rfl) (by kernel_rfl) (fun _ _ _ h => h) (Or.inl ⟨by rfl, ?y16⟩) ?b16 ?_
    case y16 => intro w; go_simp
    case b16 => go_simp; with_reducible rfl
    refine take_act (i := 17) (v := .int .i64 (k : Int)) (a' := ?a17) rfl (by kernel_rfl) (by kernel_rfl) (by kernel_rfl) (fun _ _ _ h => h) (Or.inl ⟨by rfl, ?y17⟩) ?b17 ?_
    case y17 => intro w; go_simp
    case b17 => go_simp; with_reducible rfl
    refine take_act (i := 18) (v := .int .i64 ((p : Int) - (k : Int))) (a' := ?a18) rfl (by kernel_rfl) (by kernel_rfl) (by kernel_rfl) (fun _ _ _ h => h) (Or.inl ⟨by rfl, ?y18⟩) ?b18 ?_
    case y18 => intro w; go_simp
    case b18 => go_simp; with_reducible rfl
    refine wpAny_ready (rs := [13]) (by kernel_rfl) (by simp) ?_
    refine AllReady.cons rfl (fun K hK => ?_) AllReady.nil
    go_simp
    go_wp2_with (go_at_call 18; refine (ringLen_any _ zs2 aN _ HX.out (by rw [HL2.out]; exact hN) HO2.out (by rw [HL2.out]; exact hka)).mono ?_; rintro e wn ⟨rfl, hb⟩; replace HV := hide (HV.out.below hb); replace HX := hide (HX.out.below hb); replace BT := hide (BT.out.trans (hb.mono BT.out.size)); clear hb; rw [HA1.out])
    refine take_act (i := 19) (v := .bool true) (a' := ?a19) rfl (by kernel_rfl) (by kernel_rfl) (by kernel_rfl) (fun _ _ _ h => h) (Or.inl ⟨by rfl, ?y19⟩) ?b19 ?_
    case y19 => intro w; go_simp
    case b19 => go_simp; with_reducible rfl
    refine take_act (i := 20) (v := .bool true) (a' := ?a20) rfl (by kernel_rfl) (by kernel_rfl) (by kernel_rfl) (fun _ _ _ h => h) (Or.inl ⟨by rfl, ?y20⟩) ?b20 ?_
    case y20 => intro w; go_simp
    case b20 => go_simp; with_reducible rfl
    refine take_act (i := 21) (v := .bool true) (a' := ?a21) rfl (by kernel_rfl) (by kernel_rfl) (by kernel_rfl) (fun _ _ _ h => h) (Or.inl ⟨by rfl, ?y21⟩) ?b21 ?_
    case y21 => intro w; go_simp
    case b21 => go_simp; with_reducible rfl
    refine take_act (i := 22) (v := .slice AX zs.length cX) (a' := ?a22) rfl (by kernel_rfl) (by kernel_rfl) (by kernel_rfl) (fun _ _ _ h => h) (Or.inl ⟨by rfl, ?y22⟩) ?b22 ?_
    case y22 => intro w; go_simp
    case b22 => go_simp; with_reducible rfl
    refine take_act (i := 23) (v := .int .i64 (y : Int)) (a' := ?a23) rfl (by kernel_rfl) (by kernel_rfl) (by kernel_rfl) (fun _ _ _ h => h) (Or.inl ⟨by rfl, ?y23⟩) ?b23 ?_
    case y23 => intro w; go_simp
    case b23 => go_simp; with_reducible rfl
    refine take_act (i := 25) (v := .int .i64 n) (a' := ?a25) rfl (by kernel_rfl) (by kernel_rfl) (by kernel_rfl) (fun _ _ _ h => h) (Or.inl ⟨by rfl, ?y25⟩) ?b25 ?_
    case y25 => intro w; go_simp
    case b25 => go_simp; with_reducible rfl
    refine take_act (i := 26) (v := .int .i64 (p : Int)) (a' := ?a26) rfl (by kernel_rfl) (by kernel_rfl) (by kernel_rfl) (fun _ _ _ h => h) (Or.inl ⟨by rfl, ?y26⟩) ?b26 ?_
    case y26 => intro w; go_simp
    case b26 => go_simp; with_reducible rfl
    refine take_act (i := 27) (v := .int .i64 (k : Int)) (a' := ?a27) rfl (by kernel_rfl) (by kernel_rfl) (by kernel_rfl) (fun _ _ _ h => h) (Or.inl ⟨by rfl, ?y27⟩) ?b27 ?_
    case y27 => intro w; go_simp
    case b27 => go_simp; with_reducible rfl
    refine wpAny_ready (rs := [24]) (by kernel_rfl) (by simp) ?_
    refine AllReady.cons rfl (fun K hK => ?_) AllReady.nil
    go_simp
    go_wp2_with (go_at_call 18; refine (ringLen_any _ zs2 y _ HX.out (by rw [HL2.out]; exact hN) HO2.out (by rw [HL2.out]; exact hnl)).mono ?_; rintro e wn ⟨rfl, hb⟩; replace HV := hide (HV.out.below hb); replace HX := hide (HX.out.below hb); replace BT := hide (BT.out.trans (hb.mono BT.out.size)); clear hb; rw [HA2.out])
    refine take_act (i := 28) (v := .bool true) (a' := ?a28) rfl (by kernel_rfl) (by kernel_rfl) (by kernel_rfl) (fun _ _ _ h => h) (Or.inl ⟨by rfl, ?y28⟩) ?b28 ?_
    case y28 => intro w; go_simp
    case b28 => go_simp; with_reducible rfl
    refine take_act (i := 29) (v := .bool true) (a' := ?a29) rfl (by kernel_rfl) (by kernel_rfl) (by kernel_rfl) (fun _ _ _ h => h) (Or.inl ⟨by rfl, ?y29⟩) ?b29 ?_
    case y29 => intro w; go_simp
    case b29 => go_simp; with_reducible rfl
    refine take_act (i := 30) (v := .bool true) (a' := ?a30) rfl (by kernel_rfl) (by kernel_rfl) (by kernel_rfl) (fun _ _ _ h => h) (Or.inl ⟨by rfl, ?y30⟩) ?b30 ?_
    case y30 => intro w; go_simp
    case b30 => go_simp; with_reducible rfl
    refine take_act (i := 31) (v := .slice AX zs.length cX) (a' := ?a31) rfl (by kernel_rfl) (by kernel_rfl) (by kernel_rfl) (fun _ _ _ h => h) (Or.inl ⟨by rfl, ?y31⟩) ?b31 ?_
    case y31 => intro w; go_simp
    case b31 => go_simp; with_reducible rfl
    refine take_act (i := 32) (v := .int .i64 (aN : Int)) (a' := ?a32) rfl (by kernel_rfl) (by kernel_rfl) (by kernel_rfl) (fun _ _ _ h => h) (Or.inl ⟨by rfl, ?y32⟩) ?b32 ?_
    case y32 => intro w; go_simp
    case b32 => go_simp; with_reducible rfl
    refine take_act (i := 33) (v := .int .i64 (y : Int)) (a' := ?a33) rfl (by kernel_rfl) (by kernel_rfl) (by kernel_rfl) (fun _ _ _ h => h) (Or.inl ⟨by rfl, ?y33⟩) ?b33 ?_
    case y33 => intro w; go_simp
    case b33 => go_simp; with_reducible rfl
    refine wpAny_ready (rs := [34]) (by kernel_rfl) (by simp) ?_
    refine AllReady.cons rfl (fun K hK => ?_) AllReady.nil
    go_simp
    go_wp2_with (go_at_call 23; refine (inRing_is _ zs2 aN y _ false HI2.out HX.out (by rw [HL2.out]; exact hN) HO2.out (by rw [HL2.out]; exact hka)).mono ?_; rintro e wn ⟨rfl, hb⟩; replace HV := hide (HV.out.below hb); replace HX := hide (HX.out.below hb); replace BT := hide (BT.out.trans (hb.mono BT.out.size)); clear hb)
    refine take_act (i := 35) (v := .bool true) (a' := ?a35) rfl (by kernel_rfl) (by kernel_rfl) (by kernel_rfl) (fun _ _ _ h => h) (Or.inl ⟨by rfl, ?y35⟩) ?b35 ?_
    case y35 => intro w; go_simp
    case b35 => go_simp; with_reducible rfl
    refine take_act (i := 36) (v := .bool true) (a' := ?a36) rfl (by kernel_rfl) (by kernel_rfl) (by kernel_rfl) (fun _ _ _ h => h) (Or.inl ⟨by rfl, ?y36⟩) ?b36 ?_
    case y36 => intro w; go_simp
    case b36 => go_simp; with_reducible rfl
    refine take_act (i := 37) (v := .bool true) (a' := ?a37) rfl (by kernel_rfl) (by kernel_rfl) (by kernel_rfl) (fun _ _ _ h => h) (Or.inl ⟨by rfl, ?y37⟩) ?b37 ?_
    case y37 => intro w; go_simp
    case b37 => go_simp; with_reducible rfl
    refine take_act (i := 38) (v := .slice AX zs.length cX) (a' := ?a38) rfl (by kernel_rfl) (by kernel_rfl) (by kernel_rfl) (fun _ _ _ h => h) (Or.inl ⟨by rfl, ?y38⟩) ?b38 ?_
    case y38 => intro w; go_simp
    case b38 => go_simp; with_reducible rfl
    refine take_act (i := 39) (v := .int .i64 (y : Int)) (a' := ?a39) rfl (by kernel_rfl) (by kernel_rfl) (by kernel_rfl) (fun _ _ _ h => h) (Or.inl ⟨by rfl, ?y39⟩) ?b39 ?_
    case y39 => intro w; go_simp
    case b39 => go_simp; with_reducible rfl
    refine take_act (i := 41) (v := .slice A zs.length c) (a' := ?a41) rfl (by kernel_rfl) (by kernel_rfl) (by kernel_rfl) (fun _ _ _ h => h) (Or.inl ⟨by rfl, ?y41⟩) ?b41 ?_
    case y41 => intro w; go_simp
    case b41 => go_simp; with_reducible rfl
    refine take_act (i := 42) (v := .int .i64 (aN : Int)) (a' := ?a42) rfl (by kernel_rfl) (by kernel_rfl) (by kernel_rfl) (fun _ _ _ h => h) (Or.inl ⟨by rfl, ?y42⟩) ?b42 ?_
    case y42 => intro w; go_simp
    case b42 => go_simp; with_reducible rfl
    refine take_act (i := 44) (v := .int .i64 n) (a' := ?a44) rfl (by kernel_rfl) (by kernel_rfl) (by kernel_rfl) (fun _ _ _ h => h) (Or.inl ⟨by rfl, ?y44⟩) ?b44 ?_
    case y44 => intro w; go_simp
    case b44 => go_simp; with_reducible rfl
    refine take_act (i := 45) (v := .int .i64 (p : Int)) (a' := ?a45) rfl (by kernel_rfl) (by kernel_rfl) (by kernel_rfl) (fun _ _ _ h => h) (Or.inl ⟨by rfl, ?y45⟩) ?b45 ?_
    case y45 => intro w; go_simp
    case b45 => go_simp; with_reducible rfl
    refine take_act (i := 46) (v := .int .i64 (k : Int)) (a' := ?a46) rfl (by kernel_rfl) (by kernel_rfl) (by kernel_rfl) (fun _ _ _ h => h) (Or.inl ⟨by rfl, ?y46⟩) ?b46 ?_
    case y46 => intro w; go_simp
    case b46 => go_simp; with_reducible rfl
    refine take_act (i := 47) (v := .int .i64 ((k : Int) + 1)) (a' := ?a47) rfl (by kernel_rfl) (by kernel_rfl) (by kernel_rfl) (fun _ _ _ h => h) (Or.inl ⟨by rfl, ?y47⟩) ?b47 ?_
    case y47 => intro w; go_simp
    case b47 => go_simp; with_reducible rfl
    refine wpAny_ready (rs := [40]) (by kernel_rfl) (by simp) ?_
    refine AllReady.cons rfl (fun K hK => ?_) AllReady.nil
    go_simp
    go_wp2_with (go_at_call 26; refine (ringDo_any _ zs2 y _ HX.out (by rw [HL2.out]; exact hN) HO2.out (by rw [HL2.out]; exact hnl)).mono ?_; rintro e wn ⟨vL, rfl, hf, hb⟩; replace HV := hide (HV.out.below hb); replace HX := hide (HX.out.below hb); replace BT := hide (BT.out.trans (hb.mono BT.out.size)); clear hb; have HL := hide hf.ints; obtain ⟨AL, cL, rfl⟩ := hf.form ((cycI_len zs2 y).trans HA2.out); clear hf; rw [HEC.out] at HL)
    refine wpAny_ready (rs := [43]) (by kernel_rfl) (by simp) ?_
    refine AllReady.cons rfl (fun K hK => ?_) AllReady.nil
    go_simp
    go_wp2_with (go_at_call 22; refine (cycle_any _ zs aN _ HV.out hN HO.out hka).mono ?_; rintro e wn ⟨vE, rfl, hf, hb⟩; replace HV := hide (HV.out.below hb); replace HX := hide (HX.out.below hb); replace BT := hide (BT.out.trans (hb.mono BT.out.size)); replace HL := hide (HL.out.below hb); clear hb; have HF := hide hf.ints; obtain ⟨AE, cE, rfl⟩ := hf.form ((cycI_len zs aN).trans HP.out); clear hf; obtain ⟨bl, ol, hal, _, _⟩ := HF.out.open_.2.2.2 (by omega); subst hal; have hcl := HF.out.open_.2.1; have hcl1 : ¬ cE = 1 := (by omega); have hs0 : (0 : Int) ≤ (k : Int) + 1 := (by omega); have hs1 : (k : Int) + 1 ≤ (cE : Int) := (by omega); have hs2 : (1 : Int) ≤ (k : Int) + 1 := (by omega); have h1 := HF.out; unfold cycI at h1; rw [HP.out] at h1; have HS := hide (ints_sub h1 (lo := 1) (m := k) (by omega)); clear h1)
    refine take_act (i := 48) (v := .slice (some ⟨bl, ol + 1, none⟩) k (cE - 1)) (a' := ?a48) rfl (by kernel_rfl) (by kernel_rfl) (by kernel_rfl) (fun _ _ _ h => h) (Or.inl ⟨by rfl, ?y48⟩) ?b48 ?_
    case y48 => intro w; go_simp
    case b48 => go_simp; with_reducible rfl
    refine wpAny_ready (rs := [49]) (by kernel_rfl) (by simp) ?_
    refine AllReady.cons rfl (fun K hK => ?_) AllReady.nil
    go_simp
    go_wp2_with (go_at_call 21; refine (same_true _ _ _ _ HL.out HS.out (by rw [nums_len]; omega)).mono ?_; rintro e wn ⟨rfl, hb⟩; replace HV := hide (HV.out.below hb); replace HX := hide (HX.out.below hb); replace BT := hide (BT.out.trans (hb.mono BT.out.size)); clear hb)
    refine take_act (i := 50) (v := .bool true) (a' := ?a50) rfl (by kernel_rfl) (by kernel_rfl) (by kernel_rfl) (fun _ _ _ h => h) (Or.inl ⟨by rfl, ?y50⟩) ?b50 ?_
    case y50 => intro w; go_simp
    case b50 => go_simp; with_reducible rfl
    refine take_act (i := 51) (v := .bool true) (a' := ?a51) rfl (by kernel_rfl) (by kernel_rfl) (by kernel_rfl) (fun _ _ _ h => h) (Or.inl ⟨by rfl, ?y51⟩) ?b51 ?_
    case y51 => intro w; go_simp
    case b51 => go_simp; with_reducible rfl
    refine wpAny_done (by kernel_rfl) ?_ _
    go_wp2
    go_ret
    exact ⟨rfl, BT.out⟩

end Go.Proofs.Ytclgdlpnjdogbaa
