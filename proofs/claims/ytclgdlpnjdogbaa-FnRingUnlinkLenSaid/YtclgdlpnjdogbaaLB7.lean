/-
  Laws: FnRingUnlinkLen.
-/
import Derived.Test.YtclgdlpnjdogbaaSub
namespace Go.Proofs.Ytclgdlpnjdogbaa
open Go.RowKit

theorem take_act {P : Program} {md : Region.Mode} {ops : Array Oper} {Q : Exit → Act → World → Prop} {i : Nat} {oi : Oper} {v : Value} {fuel : Nat} {listed : Array Bool} {a a' : Act} {w : World} (hi : ops[i]? = some oi)
    (hs : Region.noSelect ops = true) (hf : Region.free md ops listed i = true) (hr : (Region.ready md ops listed).contains i = true)
    (hQ : ∀ c a w, Q (.panic c) (a.put oi.dst v) w → Q (.panic c) a w) (hy : Yields P ops oi v a) (ha : a.put oi.dst v = a')
    (h : wpAny P md ops Q fuel (listed.setIfInBounds i true) a' w) : wpAny P md ops Q (fuel + 1) listed a w := wpAny_take hi hs hf hr hQ hy (ha ▸ h)

/-- An operation of a region that draws its order is taken first: it yields in every world. -/
macro "tkv " i:num v:term:max : tactic => `(tactic| (refine take_act (i := $i) (v := $v) (a' := ?a) rfl (by kernel_rfl) (by kernel_rfl) (by kernel_rfl) (fun _ _ _ h => h) (Or.inl ⟨by rfl, ?y⟩) ?b ?_; (case y => intro w; go_simp); (case b => go_simp; with_reducible rfl)))
/-- The one operation that may come up is a call: by its contract. -/
macro "cl " i:num t:tactic : tactic => `(tactic| (refine wpAny_ready (rs := [$i]) (by kernel_rfl) (by simp) ?_; refine AllReady.cons rfl (fun K hK => ?_) AllReady.nil; go_simp; go_wp2_with ($t:tactic)))

set_option maxHeartbeats 4000000 in
theorem fnRingUnlinkLen_any (v : Value) (zs : List Int) (a : Int) (n : Int) (w : World) (hv : Ints w v zs) (hN : zs.length * 8 ≤ 140737488351232) (_ha : (Lit.int .i64 a).wf = true) (_hn : (Lit.int .i64 n).wf = true) :
    Calls Try.prog 14 #[v, .int .i64 a, .int .i64 n] w fun e w' => e = .returned (.bool true) ∧ Below w.heap.size w w' := by
  have HV := hide hv
  clear _ha _hn
  cases hE : elemB zs a with
  | false =>
    have HE := hide hE
    clear hE hv
    have BT : Hid (Below w.heap.size w w) := Below.refl _ _
    go_enter Try.func14, Try.ntmps14
    go_wp2_with fail
    refine (elem_is _ zs _ _ false HE.out HV.out hN).mono ?_
    rintro e w1 ⟨rfl, hb⟩
    replace HV := hide (HV.out.below hb)
    replace BT := hide (BT.out.trans (hb.mono BT.out.size))
    clear hb
    go_wp2
    go_ret
    exact ⟨rfl, BT.out⟩
  | true =>
    have HE := hide hE
    obtain ⟨hok, aN, rfl, hka⟩ := elem_ok hE
    have HO := hide hok
    by_cases hlo : n < 1
    · clear hE hok hv
      have BT : Hid (Below w.heap.size w w) := Below.refl _ _
      go_enter Try.func14, Try.ntmps14
      go_wp2_with fail
      refine (elem_is _ zs _ _ true HE.out HV.out hN).mono ?_
      rintro e w2 ⟨rfl, hb⟩
      replace HV := hide (HV.out.below hb)
      replace BT := hide (BT.out.trans (hb.mono BT.out.size))
      clear hb
      go_wp2
      go_ret
      exact ⟨rfl, BT.out⟩
    by_cases hhi : 100000 < n
    · clear hE hok hv
      have BT : Hid (Below w.heap.size w w) := Below.refl _ _
      go_enter Try.func14, Try.ntmps14
      go_wp2_with fail
      refine (elem_is _ zs _ _ true HE.out HV.out hN).mono ?_
      rintro e w3 ⟨rfl, hb⟩
      replace HV := hide (HV.out.below hb)
      replace BT := hide (BT.out.trans (hb.mono BT.out.size))
      clear hb
      go_wp2
      go_ret
      exact ⟨rfl, BT.out⟩
    have hp := hok.len_pos hka
    have hll := hok.len_le hka
    have hr0 := Int.emod_nonneg n (show (len zs aN : Int) ≠ 0 by omega)
    have hr1 := Int.emod_lt_of_pos n (show (0 : Int) < (len zs aN : Int) by omega)
    obtain ⟨k, hk⟩ : ∃ k : Nat, n % (len zs aN : Int) = k := ⟨(n % (len zs aN : Int)).toNat, by omega⟩
    have hkp : k < len zs aN := by omega
    have hp0 : ((len zs aN : Int) == 0) = false := by simp; omega
    have hnn0 : 0 ≤ n := by omega
    rcases Nat.eq_zero_or_pos k with rfl | hk0
    · have hkk : n % (len zs aN : Int) = 0 := by simpa using hk
      clear hE hok hv hk hr0 hr1
      have BT : Hid (Below w.heap.size w w) := Below.refl _ _
      go_enter Try.func14, Try.ntmps14
      go_wp2_with fail
      refine (elem_is _ zs _ _ true HE.out HV.out hN).mono ?_
      rintro e w4 ⟨rfl, hb⟩
      replace HV := hide (HV.out.below hb)
      replace BT := hide (BT.out.trans (hb.mono BT.out.size))
      clear hb
      go_wp2_with fail
      refine (cycle_any _ zs aN _ HV.out hN HO.out hka).mono ?_
      rintro e w5 ⟨vC, rfl, hf, hb⟩
      replace HV := hide (HV.out.below hb)
      replace BT := hide (BT.out.trans (hb.mono BT.out.size))
      clear hb
      have HC := hide hf.ints
      obtain ⟨AC, cC, rfl⟩ := hf.form (cycI_len zs aN)
      clear hf
      go_wp2
      go_ret
      exact ⟨rfl, BT.out⟩
    have hbl := mv_lt hok hka (n + 1)
    have hmr := mv_rem hok hka hk
    have hok2 := linkI_ok hok hka hbl
    have hl2 := linkI_len zs aN (mv zs aN (n + 1))
    have hnl := hok.nx_lt hka
    have HE3 := hide (elem_ok' hok2 (k := nx zs aN) (by rw [hl2]; exact hnl))
    obtain ⟨e1, e2, e3, e4⟩ := one_two hok hka (m := k + 1) (by omega) (by omega) hmr.symm
    rw [show len zs aN - (k + 1) + 1 = len zs aN - k by omega] at e1
    rw [Nat.add_sub_cancel] at e2 e4
    have hec : cycI (linkI zs aN (mv zs aN (n + 1))) (nx zs aN) = nums (fun j => orb zs aN (j + 1)) k := by unfold cycI; rw [e2]; exact nums_congr e4
    obtain ⟨zs2, hz2⟩ : ∃ z, linkI zs aN (mv zs aN (n + 1)) = z := ⟨_, rfl⟩
    obtain ⟨y, hy⟩ : ∃ y, nx zs aN = y := ⟨_, rfl⟩
    obtain ⟨p, hpp⟩ : ∃ p, len zs aN = p := ⟨_, rfl⟩
    have HZ2 := hide hz2
    have HY := hide hy
    have HP := hide hpp
    rw [hz2] at hok2 hl2 HE3 e1 e2 e3 hec
    rw [hy] at HE3 hnl e2 e3 hec
    rw [hpp] at e1 hk hkp hp hll hp0
    have HO2 := hide hok2
    have HL2 := hide hl2
    have HI2 := hide e3
    have HA1 := hide e1
    have HA2 := hide e2
    have HEC := hide hec
    have hnn : ((zs.length : Int) == (zs.length : Int)) = true := by simp
    obtain ⟨A, c, rfl⟩ := hv.form rfl
    have hk1 : ((k : Int) == 0) = false := by simp; omega
    clear hE hok hv hok2 hl2 hz2 hy hr0 hr1 hbl hmr e1 e2 e3 e4 hec hpp
    have BT : Hid (Below w.heap.size w w) := Below.refl _ _
    go_enter Try.func14, Try.ntmps14
    go_wp2_with fail
    refine (elem_is _ zs _ _ true HE.out HV.out hN).mono ?_
    rintro e w6 ⟨rfl, hb⟩
    replace HV := hide (HV.out.below hb)
    replace BT := hide (BT.out.trans (hb.mono BT.out.size))
    clear hb
    go_wp2_with fail
    refine (cycle_any _ zs aN _ HV.out hN HO.out hka).mono ?_
    rintro e w7 ⟨vC, rfl, hf, hb⟩
    replace HV := hide (HV.out.below hb)
    replace BT := hide (BT.out.trans (hb.mono BT.out.size))
    clear hb
    have HC := hide hf.ints
    obtain ⟨AC, cC, rfl⟩ := hf.form ((cycI_len zs aN).trans HP.out)
    clear hf
    go_wp2_with fail
    refine (cycle_any _ zs aN _ HV.out hN HO.out hka).mono ?_
    rintro e w8 ⟨vD, rfl, hf, hb⟩
    replace HV := hide (HV.out.below hb)
    replace HC := hide (HC.out.below hb)
    replace BT := hide (BT.out.trans (hb.mono BT.out.size))
    clear hb
    have HD := hide hf.ints
    obtain ⟨AD, cD, rfl⟩ := hf.form ((cycI_len zs aN).trans HP.out)
    clear hf
    go_wp2_with fail
    refine (ringUnlink_any _ zs aN n _ HV.out hN HO.out hka (by omega) (by omega)).mono ?_
    rintro e w9 ⟨vX, rfl, hf, hb⟩
    replace HV := hide (HV.out.below hb)
    replace HC := hide (HC.out.below hb)
    replace HD := hide (HD.out.below hb)
    replace BT := hide (BT.out.trans (hb.mono BT.out.size))
    clear hb
    have HX := hide hf.ints
    obtain ⟨AX, cX, rfl⟩ := hf.form (linkI_len _ _ _)
    clear hf
    rw [HZ2.out] at HX
    rw [HY.out]
    have hp1 : ¬ (p : Int) = 0 := by omega
    have htm : Int.tmod n (p : Int) = (k : Int) := by rw [Int.tmod_eq_emod_of_nonneg hnn0]; exact hk
    have hw1 : IntKind.i64.wrap (k : Int) = (k : Int) := IntWalk.i64_in _ (by omega)
    have hw2 : IntKind.i64.wrap ((k : Int) + 1) = (k : Int) + 1 := IntWalk.i64_in _ (by omega)
    have hw3 : IntKind.i64.wrap ((p : Int) - (k : Int)) = (p : Int) - (k : Int) := IntWalk.i64_in _ (by omega)
    have hq1 : (((p - k : Nat) : Int) == (p : Int) - (k : Int)) = true := by simp; omega
    have hq2 : ((k : Int) == (k : Int)) = true := by simp
    go_wp2_with fail
    replace HV := hide (HV.out.below (Below.refl _ _).drew)
    replace HX := hide (HX.out.below (Below.refl _ _).drew)
    replace BT := hide BT.out.drew
    refine wp_region_any (by kernel_rfl) ?_
    change wpAny _ _ _ _ _ _ _ (World.drew _)
    tkv 0 (.slice AX zs.length cX)
    tkv 1 (.int .i64 (y : Int))
    cl 2 (go_at_call 15; refine (elem_is _ zs2 _ _ true HE3.out HX.out (by rw [HL2.out]; exact hN)).mono ?_; rintro e wn ⟨rfl, hb⟩; replace HV := hide (HV.out.below hb); replace HX := hide (HX.out.below hb); replace BT := hide (BT.out.trans (hb.mono BT.out.size)); clear hb)
    tkv 3 (.bool true)
    tkv 4 (.slice AX zs.length cX)
    tkv 5 (.int .i64 (zs.length : Int))
    tkv 6 (.slice A zs.length c)
    tkv 7 (.int .i64 (zs.length : Int))
    tkv 8 (.bool true)
    tkv 9 (.bool true)
    tkv 10 (.bool true)
    tkv 11 (.slice AX zs.length cX)
    tkv 12 (.int .i64 (aN : Int))
    tkv 14 (.int .i64 (p : Int))
    tkv 15 (.int .i64 n)
    tkv 16 (.int .i64 (p : Int))
    tkv 17 (.int .i64 (k : Int))
    tkv 18 (.int .i64 ((p : Int) - (k : Int)))
    cl 13 (go_at_call 18; refine (ringLen_any _ zs2 aN _ HX.out (by rw [HL2.out]; exact hN) HO2.out (by rw [HL2.out]; exact hka)).mono ?_; rintro e wn ⟨rfl, hb⟩; replace HV := hide (HV.out.below hb); replace HX := hide (HX.out.below hb); replace BT := hide (BT.out.trans (hb.mono BT.out.size)); clear hb; rw [HA1.out])
    tkv 19 (.bool true)
    tkv 20 (.bool true)
    tkv 21 (.bool true)
    tkv 22 (.slice AX zs.length cX)
    tkv 23 (.int .i64 (y : Int))
    tkv 25 (.int .i64 n)
    tkv 26 (.int .i64 (p : Int))
    tkv 27 (.int .i64 (k : Int))
    cl 24 (go_at_call 18; refine (ringLen_any _ zs2 y _ HX.out (by rw [HL2.out]; exact hN) HO2.out (by rw [HL2.out]; exact hnl)).mono ?_; rintro e wn ⟨rfl, hb⟩; replace HV := hide (HV.out.below hb); replace HX := hide (HX.out.below hb); replace BT := hide (BT.out.trans (hb.mono BT.out.size)); clear hb; rw [HA2.out])
    tkv 28 (.bool true)
    tkv 29 (.bool true)
    tkv 30 (.bool true)
    tkv 31 (.slice AX zs.length cX)
    tkv 32 (.int .i64 (aN : Int))
    tkv 33 (.int .i64 (y : Int))
    cl 34 (go_at_call 23; refine (inRing_is _ zs2 aN y _ false HI2.out HX.out (by rw [HL2.out]; exact hN) HO2.out (by rw [HL2.out]; exact hka)).mono ?_; rintro e wn ⟨rfl, hb⟩; replace HV := hide (HV.out.below hb); replace HX := hide (HX.out.below hb); replace BT := hide (BT.out.trans (hb.mono BT.out.size)); clear hb)
    tkv 35 (.bool true)
    tkv 36 (.bool true)
    tkv 37 (.bool true)
    tkv 38 (.slice AX zs.length cX)
    tkv 39 (.int .i64 (y : Int))
    tkv 41 (.slice A zs.length c)
    tkv 42 (.int .i64 (aN : Int))
    tkv 44 (.int .i64 n)
    tkv 45 (.int .i64 (p : Int))
    tkv 46 (.int .i64 (k : Int))
    tkv 47 (.int .i64 ((k : Int) + 1))
    cl 40 (go_at_call 26; refine (ringDo_any _ zs2 y _ HX.out (by rw [HL2.out]; exact hN) HO2.out (by rw [HL2.out]; exact hnl)).mono ?_; rintro e wn ⟨vL, rfl, hf, hb⟩; replace HV := hide (HV.out.below hb); replace HX := hide (HX.out.below hb); replace BT := hide (BT.out.trans (hb.mono BT.out.size)); clear hb; have HL := hide hf.ints; obtain ⟨AL, cL, rfl⟩ := hf.form ((cycI_len zs2 y).trans HA2.out); clear hf; rw [HEC.out] at HL)
    cl 43 (go_at_call 22; refine (cycle_any _ zs aN _ HV.out hN HO.out hka).mono ?_; rintro e wn ⟨vE, rfl, hf, hb⟩; replace HV := hide (HV.out.below hb); replace HX := hide (HX.out.below hb); replace BT := hide (BT.out.trans (hb.mono BT.out.size)); replace HL := hide (HL.out.below hb); clear hb; have HF := hide hf.ints; obtain ⟨AE, cE, rfl⟩ := hf.form ((cycI_len zs aN).trans HP.out); clear hf; obtain ⟨bl, ol, hal, _, _⟩ := HF.out.open_.2.2.2 (by omega); subst hal; have hcl := HF.out.open_.2.1; have hcl1 : ¬ cE = 1 := (by omega); have hs0 : (0 : Int) ≤ (k : Int) + 1 := (by omega); have hs1 : (k : Int) + 1 ≤ (cE : Int) := (by omega); have hs2 : (1 : Int) ≤ (k : Int) + 1 := (by omega); have h1 := HF.out; unfold cycI at h1; rw [HP.out] at h1; have HS := hide (ints_sub h1 (lo := 1) (m := k) (by omega)); clear h1)
    tkv 48 (.slice (some ⟨bl, ol + 1, none⟩) k (cE - 1))
    cl 49 (go_at_call 21; refine (same_true _ _ _ _ HL.out HS.out (by rw [nums_len]; omega)).mono ?_; rintro e wn ⟨rfl, hb⟩; replace HV := hide (HV.out.below hb); replace HX := hide (HX.out.below hb); replace BT := hide (BT.out.trans (hb.mono BT.out.size)); clear hb)
    tkv 50 (.bool true)
    tkv 51 (.bool true)
    refine wpAny_done (by kernel_rfl) ?_ _
    go_wp2
    go_ret
    exact ⟨rfl, BT.out⟩

end Go.Proofs.Ytclgdlpnjdogbaa
