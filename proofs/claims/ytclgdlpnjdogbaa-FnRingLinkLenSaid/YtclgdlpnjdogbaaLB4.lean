/-
  Laws: FnRingLinkLen.
-/
import Derived.Test.YtclgdlpnjdogbaaLMath
namespace Go.Proofs.Ytclgdlpnjdogbaa
open Go.RowKit

set_option maxHeartbeats 2000000 in
theorem fnRingLinkLen_any (v : Value) (zs : List Int) (a : Int) (b : Int) (w : World) (hv : Ints w v zs) (hN : zs.length * 8 ≤ 140737488351232) (_ha : (Lit.int .i64 a).wf = true) (_hb : (Lit.int .i64 b).wf = true) :
    Calls Try.prog 7 #[v, .int .i64 a, .int .i64 b] w fun e w' => e = .returned (.bool true) ∧ Below w.heap.size w w' := by
  have HV := hide hv
  clear _ha _hb
  cases hE : elemB zs a with
  | false =>
    have HE := hide hE
    clear hE hv
    have BT : Hid (Below w.heap.size w w) := Below.refl _ _
    go_enter Try.func7, Try.ntmps7
    go_wp2_with fail
    refine (elem_is _ zs _ _ false HE.out HV.out hN).mono ?_
    rintro e w1 ⟨rfl, hb⟩
    replace HV := hide (HV.out.below hb)
    replace BT := hide (BT.out.trans (hb.mono BT.out.size))
    clear hb
    go_wp2
    go_ret
    exact ⟨rfl, BT.out⟩
  | true =>
    have HE := hide hE
    obtain ⟨hok, aN, rfl, hka⟩ := elem_ok hE
    have HO := hide hok
    cases hE2 : elemB zs b with
    | false =>
      have HE2 := hide hE2
      clear hE hE2 hok hv
      have BT : Hid (Below w.heap.size w w) := Below.refl _ _
      go_enter Try.func7, Try.ntmps7
      go_wp2_with fail
      refine (elem_is _ zs _ _ true HE.out HV.out hN).mono ?_
      rintro e w2 ⟨rfl, hb⟩
      replace HV := hide (HV.out.below hb)
      replace BT := hide (BT.out.trans (hb.mono BT.out.size))
      clear hb
      go_wp2_with fail
      refine (elem_is _ zs _ _ false HE2.out HV.out hN).mono ?_
      rintro e w3 ⟨rfl, hb⟩
      replace HV := hide (HV.out.below hb)
      replace BT := hide (BT.out.trans (hb.mono BT.out.size))
      clear hb
      go_wp2
      go_ret
      exact ⟨rfl, BT.out⟩
    | true =>
      have HE2 := hide hE2
      obtain ⟨-, bN, rfl, hkb⟩ := elem_ok hE2
      have hok2 := linkI_ok hok hka hkb
      have hl2 := linkI_len zs aN bN
      have hnl := hok.nx_lt hka
      have HE3 := hide (elem_ok' hok2 (k := nx zs aN) (by rw [hl2]; exact hnl))
      have hpa := hok.len_le hka
      have hpb := hok.len_le hkb
      have hnn : ((zs.length : Int) != (zs.length : Int)) = false := by simp
      obtain ⟨bb, off, c, rfl⟩ := ints_addr hv (by omega)
      cases hI : inB zs aN bN with
      | false =>
        have HI := hide hI
        have e1 := len_two hok hka hkb hI
        have e0 := (len_link_ab hok hka hkb).trans e1
        have e2 := in_two hok hka hkb hI
        obtain ⟨zs2, hz2⟩ : ∃ z, linkI zs aN bN = z := ⟨_, rfl⟩
        obtain ⟨y, hy⟩ : ∃ y, nx zs aN = y := ⟨_, rfl⟩
        have HZ2 := hide hz2
        have HY := hide hy
        rw [hz2] at hok2 hl2 HE3 e0 e1 e2
        rw [hy] at HE3 hnl
        have HO2 := hide hok2
        have HL2 := hide hl2
        have HI2 := hide e2
        have q1 : ((len zs2 aN : Int) == (len zs aN : Int) + (len zs bN : Int)) = true := by rw [e0]; simp
        have q2 : ((len zs2 bN : Int) == (len zs aN : Int) + (len zs bN : Int)) = true := by rw [e1]; simp
        clear hE hE2 hok hv hok2 hl2 e0 e1 e2 hz2 hy hI
        have BT : Hid (Below w.heap.size w w) := Below.refl _ _
        go_enter Try.func7, Try.ntmps7
        go_wp2_with fail
        refine (elem_is _ zs _ _ true HE.out HV.out hN).mono ?_
        rintro e w4 ⟨rfl, hb⟩
        replace HV := hide (HV.out.below hb)
        replace BT := hide (BT.out.trans (hb.mono BT.out.size))
        clear hb
        go_wp2_with fail
        refine (elem_is _ zs _ _ true HE2.out HV.out hN).mono ?_
        rintro e w5 ⟨rfl, hb⟩
        replace HV := hide (HV.out.below hb)
        replace BT := hide (BT.out.trans (hb.mono BT.out.size))
        clear hb
        go_wp2_with fail
        refine (cycle_any _ zs aN _ HV.out hN HO.out hka).mono ?_
        rintro e w6 ⟨vC, rfl, hf, hb⟩
        replace HV := hide (HV.out.below hb)
        replace BT := hide (BT.out.trans (hb.mono BT.out.size))
        clear hb
        have HC := hide hf.ints
        obtain ⟨AC, cC, rfl⟩ := hf.form (cycI_len zs aN)
        clear hf
        go_wp2_with fail
        refine (cycle_any _ zs bN _ HV.out hN HO.out hkb).mono ?_
        rintro e w7 ⟨vD, rfl, hf, hb⟩
        replace HV := hide (HV.out.below hb)
        replace HC := hide (HC.out.below hb)
        replace BT := hide (BT.out.trans (hb.mono BT.out.size))
        clear hb
        have HD := hide hf.ints
        obtain ⟨AD, cD, rfl⟩ := hf.form (cycI_len zs bN)
        clear hf
        go_wp2_with fail
        refine (ringLink_any _ zs aN bN _ HV.out hN HO.out hka hkb).mono ?_
        rintro e w8 ⟨vX, rfl, hf, hb⟩
        replace HV := hide (HV.out.below hb)
        replace HC := hide (HC.out.below hb)
        replace HD := hide (HD.out.below hb)
        replace BT := hide (BT.out.trans (hb.mono BT.out.size))
        clear hb
        have HX := hide hf.ints
        obtain ⟨AX, cX, rfl⟩ := hf.form (linkI_len zs aN bN)
        clear hf
        rw [HZ2.out] at HX
        rw [HY.out]
        go_wp2_with fail
        refine (elem_is _ zs2 _ _ true HE3.out HX.out (by rw [HL2.out]; exact hN)).mono ?_
        rintro e w9 ⟨rfl, hb⟩
        replace HV := hide (HV.out.below hb)
        replace HC := hide (HC.out.below hb)
        replace HD := hide (HD.out.below hb)
        replace HX := hide (HX.out.below hb)
        replace BT := hide (BT.out.trans (hb.mono BT.out.size))
        clear hb
        go_wp2_with fail
        refine (inRing_is _ zs aN bN _ false HI.out HV.out hN HO.out hka).mono ?_
        rintro e w10 ⟨rfl, hb⟩
        replace HV := hide (HV.out.below hb)
        replace HC := hide (HC.out.below hb)
        replace HD := hide (HD.out.below hb)
        replace HX := hide (HX.out.below hb)
        replace BT := hide (BT.out.trans (hb.mono BT.out.size))
        clear hb
        go_wp2_with fail
        refine (ringLen_any _ zs2 aN _ HX.out (by rw [HL2.out]; exact hN) HO2.out (by rw [HL2.out]; exact hka)).mono ?_
        rintro e w11 ⟨rfl, hb⟩
        replace HV := hide (HV.out.below hb)
        replace HC := hide (HC.out.below hb)
        replace HD := hide (HD.out.below hb)
        replace HX := hide (HX.out.below hb)
        replace BT := hide (BT.out.trans (hb.mono BT.out.size))
        clear hb
        go_wp2_with fail
        refine (ringLen_any _ zs2 bN _ HX.out (by rw [HL2.out]; exact hN) HO2.out (by rw [HL2.out]; exact hkb)).mono ?_
        rintro e w12 ⟨rfl, hb⟩
        replace HV := hide (HV.out.below hb)
        replace HC := hide (HC.out.below hb)
        replace HD := hide (HD.out.below hb)
        replace HX := hide (HX.out.below hb)
        replace BT := hide (BT.out.trans (hb.mono BT.out.size))
        clear hb
        go_wp2_with fail
        refine (inRing_is _ zs2 aN bN _ true HI2.out HX.out (by rw [HL2.out]; exact hN) HO2.out (by rw [HL2.out]; exact hka)).mono ?_
        rintro e w13 ⟨rfl, hb⟩
        replace HV := hide (HV.out.below hb)
        replace HC := hide (HC.out.below hb)
        replace HD := hide (HD.out.below hb)
        replace HX := hide (HX.out.below hb)
        replace BT := hide (BT.out.trans (hb.mono BT.out.size))
        clear hb
        go_wp2
        go_ret
        exact ⟨rfl, BT.out⟩
      | true =>
        have HI := hide hI
        by_cases hyb : nx zs aN = bN
        · have e0 := link_self hok hka
          rw [hyb] at e0
          have e1 : len (linkI zs aN bN) aN = len zs aN := by rw [e0]
          obtain ⟨zs2, hz2⟩ : ∃ z, linkI zs aN bN = z := ⟨_, rfl⟩
          obtain ⟨y, hy⟩ : ∃ y, nx zs aN = y := ⟨_, rfl⟩
          have HZ2 := hide hz2
          have HY := hide hy
          rw [hz2] at hok2 hl2 HE3 e1
          rw [hy] at HE3 hnl
          obtain rfl : bN = y := by rw [← hy]; exact hyb.symm
          have HO2 := hide hok2
          have HL2 := hide hl2
          have q1 : ((len zs2 aN : Int) == (len zs aN : Int)) = true := by rw [e1]; simp
          have q2 : ((bN : Int) == (bN : Int)) = true := by simp
          clear hE hE2 hok hv hok2 hl2 e0 e1 hz2 hy hI hyb
          have BT : Hid (Below w.heap.size w w) := Below.refl _ _
          go_enter Try.func7, Try.ntmps7
          go_wp2_with fail
          refine (elem_is _ zs _ _ true HE.out HV.out hN).mono ?_
          rintro e w14 ⟨rfl, hb⟩
          replace HV := hide (HV.out.below hb)
          replace BT := hide (BT.out.trans (hb.mono BT.out.size))
          clear hb
          go_wp2_with fail
          refine (elem_is _ zs _ _ true HE2.out HV.out hN).mono ?_
          rintro e w15 ⟨rfl, hb⟩
          replace HV := hide (HV.out.below hb)
          replace BT := hide (BT.out.trans (hb.mono BT.out.size))
          clear hb
          go_wp2_with fail
          refine (cycle_any _ zs aN _ HV.out hN HO.out hka).mono ?_
          rintro e w16 ⟨vC, rfl, hf, hb⟩
          replace HV := hide (HV.out.below hb)
          replace BT := hide (BT.out.trans (hb.mono BT.out.size))
          clear hb
          have HC := hide hf.ints
          obtain ⟨AC, cC, rfl⟩ := hf.form (cycI_len zs aN)
          clear hf
          go_wp2_with fail
          refine (cycle_any _ zs bN _ HV.out hN HO.out hkb).mono ?_
          rintro e w17 ⟨vD, rfl, hf, hb⟩
          replace HV := hide (HV.out.below hb)
          replace HC := hide (HC.out.below hb)
          replace BT := hide (BT.out.trans (hb.mono BT.out.size))
          clear hb
          have HD := hide hf.ints
          obtain ⟨AD, cD, rfl⟩ := hf.form (cycI_len zs bN)
          clear hf
          go_wp2_with fail
          refine (ringLink_any _ zs aN bN _ HV.out hN HO.out hka hkb).mono ?_
          rintro e w18 ⟨vX, rfl, hf, hb⟩
          replace HV := hide (HV.out.below hb)
          replace HC := hide (HC.out.below hb)
          replace HD := hide (HD.out.below hb)
          replace BT := hide (BT.out.trans (hb.mono BT.out.size))
          clear hb
          have HX := hide hf.ints
          obtain ⟨AX, cX, rfl⟩ := hf.form (linkI_len zs aN bN)
          clear hf
          rw [HZ2.out] at HX
          rw [HY.out]
          go_wp2_with fail
          refine (elem_is _ zs2 _ _ true HE3.out HX.out (by rw [HL2.out]; exact hN)).mono ?_
          rintro e w19 ⟨rfl, hb⟩
          replace HV := hide (HV.out.below hb)
          replace HC := hide (HC.out.below hb)
          replace HD := hide (HD.out.below hb)
          replace HX := hide (HX.out.below hb)
          replace BT := hide (BT.out.trans (hb.mono BT.out.size))
          clear hb
          go_wp2_with fail
          refine (inRing_is _ zs aN bN _ true HI.out HV.out hN HO.out hka).mono ?_
          rintro e w20 ⟨rfl, hb⟩
          replace HV := hide (HV.out.below hb)
          replace HC := hide (HC.out.below hb)
          replace HD := hide (HD.out.below hb)
          replace HX := hide (HX.out.below hb)
          replace BT := hide (BT.out.trans (hb.mono BT.out.size))
          clear hb
          have hcell := ring_cell HV.out HO.out hka
          rw [HY.out] at hcell
          go_wp2_with fail
          refine (ringLen_any _ zs2 aN _ HX.out (by rw [HL2.out]; exact hN) HO2.out (by rw [HL2.out]; exact hka)).mono ?_
          rintro e w21 ⟨rfl, hb⟩
          replace HV := hide (HV.out.below hb)
          replace HC := hide (HC.out.below hb)
          replace HD := hide (HD.out.below hb)
          replace HX := hide (HX.out.below hb)
          replace BT := hide (BT.out.trans (hb.mono BT.out.size))
          clear hb
          go_wp2
          go_ret
          exact ⟨rfl, BT.out⟩
        · obtain ⟨e1, e2⟩ := len_split hok hka hI hyb
          obtain ⟨zs2, hz2⟩ : ∃ z, linkI zs aN bN = z := ⟨_, rfl⟩
          obtain ⟨y, hy⟩ : ∃ y, nx zs aN = y := ⟨_, rfl⟩
          have HZ2 := hide hz2
          have HY := hide hy
          rw [hz2] at hok2 hl2 HE3 e1 e2
          rw [hy] at HE3 hnl
          rw [hy] at e1 e2 hyb
          have HO2 := hide hok2
          have HL2 := hide hl2
          have HI2 := hide e2
          have q1 : ((len zs2 aN : Int) + (len zs2 y : Int) == (len zs aN : Int)) = true := by rw [← e1]; simp
          have q3 : len zs2 aN ≤ zs.length := by omega
          have q4 : len zs2 y ≤ zs.length := by omega
          have q2 : ((y : Int) == (bN : Int)) = false := by simp; omega
          clear hE hE2 hok hv hok2 hl2 e1 e2 hz2 hy hI hyb
          have BT : Hid (Below w.heap.size w w) := Below.refl _ _
          go_enter Try.func7, Try.ntmps7
          go_wp2_with fail
          refine (elem_is _ zs _ _ true HE.out HV.out hN).mono ?_
          rintro e w22 ⟨rfl, hb⟩
          replace HV := hide (HV.out.below hb)
          replace BT := hide (BT.out.trans (hb.mono BT.out.size))
          clear hb
          go_wp2_with fail
          refine (elem_is _ zs _ _ true HE2.out HV.out hN).mono ?_
          rintro e w23 ⟨rfl, hb⟩
          replace HV := hide (HV.out.below hb)
          replace BT := hide (BT.out.trans (hb.mono BT.out.size))
          clear hb
          go_wp2_with fail
          refine (cycle_any _ zs aN _ HV.out hN HO.out hka).mono ?_
          rintro e w24 ⟨vC, rfl, hf, hb⟩
          replace HV := hide (HV.out.below hb)
          replace BT := hide (BT.out.trans (hb.mono BT.out.size))
          clear hb
          have HC := hide hf.ints
          obtain ⟨AC, cC, rfl⟩ := hf.form (cycI_len zs aN)
          clear hf
          go_wp2_with fail
          refine (cycle_any _ zs bN _ HV.out hN HO.out hkb).mono ?_
          rintro e w25 ⟨vD, rfl, hf, hb⟩
          replace HV := hide (HV.out.below hb)
          replace HC := hide (HC.out.below hb)
          replace BT := hide (BT.out.trans (hb.mono BT.out.size))
          clear hb
          have HD := hide hf.ints
          obtain ⟨AD, cD, rfl⟩ := hf.form (cycI_len zs bN)
          clear hf
          go_wp2_with fail
          refine (ringLink_any _ zs aN bN _ HV.out hN HO.out hka hkb).mono ?_
          rintro e w26 ⟨vX, rfl, hf, hb⟩
          replace HV := hide (HV.out.below hb)
          replace HC := hide (HC.out.below hb)
          replace HD := hide (HD.out.below hb)
          replace BT := hide (BT.out.trans (hb.mono BT.out.size))
          clear hb
          have HX := hide hf.ints
          obtain ⟨AX, cX, rfl⟩ := hf.form (linkI_len zs aN bN)
          clear hf
          rw [HZ2.out] at HX
          rw [HY.out]
          go_wp2_with fail
          refine (elem_is _ zs2 _ _ true HE3.out HX.out (by rw [HL2.out]; exact hN)).mono ?_
          rintro e w27 ⟨rfl, hb⟩
          replace HV := hide (HV.out.below hb)
          replace HC := hide (HC.out.below hb)
          replace HD := hide (HD.out.below hb)
          replace HX := hide (HX.out.below hb)
          replace BT := hide (BT.out.trans (hb.mono BT.out.size))
          clear hb
          go_wp2_with fail
          refine (inRing_is _ zs aN bN _ true HI.out HV.out hN HO.out hka).mono ?_
          rintro e w28 ⟨rfl, hb⟩
          replace HV := hide (HV.out.below hb)
          replace HC := hide (HC.out.below hb)
          replace HD := hide (HD.out.below hb)
          replace HX := hide (HX.out.below hb)
          replace BT := hide (BT.out.trans (hb.mono BT.out.size))
          clear hb
          have hcell := ring_cell HV.out HO.out hka
          rw [HY.out] at hcell
          go_wp2_with fail
          refine (ringLen_any _ zs2 aN _ HX.out (by rw [HL2.out]; exact hN) HO2.out (by rw [HL2.out]; exact hka)).mono ?_
          rintro e w29 ⟨rfl, hb⟩
          replace HV := hide (HV.out.below hb)
          replace HC := hide (HC.out.below hb)
          replace HD := hide (HD.out.below hb)
          replace HX := hide (HX.out.below hb)
          replace BT := hide (BT.out.trans (hb.mono BT.out.size))
          clear hb
          go_wp2_with fail
          refine (ringLen_any _ zs2 y _ HX.out (by rw [HL2.out]; exact hN) HO2.out (by rw [HL2.out]; exact hnl)).mono ?_
          rintro e w30 ⟨rfl, hb⟩
          replace HV := hide (HV.out.below hb)
          replace HC := hide (HC.out.below hb)
          replace HD := hide (HD.out.below hb)
          replace HX := hide (HX.out.below hb)
          replace BT := hide (BT.out.trans (hb.mono BT.out.size))
          clear hb
          go_wp2_with fail
          refine (inRing_is _ zs2 aN y _ false HI2.out HX.out (by rw [HL2.out]; exact hN) HO2.out (by rw [HL2.out]; exact hka)).mono ?_
          rintro e w31 ⟨rfl, hb⟩
          replace HV := hide (HV.out.below hb)
          replace HC := hide (HC.out.below hb)
          replace HD := hide (HD.out.below hb)
          replace HX := hide (HX.out.below hb)
          replace BT := hide (BT.out.trans (hb.mono BT.out.size))
          clear hb
          go_wp2
          go_ret
          exact ⟨rfl, BT.out⟩

end Go.Proofs.Ytclgdlpnjdogbaa
