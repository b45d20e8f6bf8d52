/-
  Laws: FnRingLinkOrder.
-/
import Derived.Test.YtclgdlpnjdogbaaSub
namespace Go.Proofs.Ytclgdlpnjdogbaa
open Go.RowKit

set_option maxHeartbeats 2000000 in
theorem fnRingLinkOrder_any (v : Value) (zs : List Int) (a : Int) (b : Int) (w : World) (hv : Ints w v zs) (hN : zs.length * 8 ≤ 140737488351232) (_ha : (Lit.int .i64 a).wf = true) (_hb : (Lit.int .i64 b).wf = true) :
    Calls Try.prog 10 #[v, .int .i64 a, .int .i64 b] w fun e w' => e = .returned (.bool true) ∧ Below w.heap.size w w' := by
  have HV := hide hv
  clear _ha _hb
  cases hE : elemB zs a with
  | false =>
    have HE := hide hE
    clear hE hv
    have BT : Hid (Below w.heap.size w w) := Below.refl _ _
    go_enter Try.func10, Try.ntmps10
    go_wp2_with fail
    refine (elem_is _ zs _ _ false HE.out HV.out hN).mono ?_
    rintro e w1 ⟨rfl, hb⟩
    replace HV := hide (HV.out.below hb)
    replace BT := hide (BT.out.trans (hb.mono BT.out.size))
    clear hb
    go_wp2
    go_ret
    exact ⟨rfl, BT.out⟩
  | true =>
    have HE := hide hE
    obtain ⟨hok, aN, rfl, hka⟩ := elem_ok hE
    have HO := hide hok
    cases hE2 : elemB zs b with
    | false =>
      have HE2 := hide hE2
      clear hE hE2 hok hv
      have BT : Hid (Below w.heap.size w w) := Below.refl _ _
      go_enter Try.func10, Try.ntmps10
      go_wp2_with fail
      refine (elem_is _ zs _ _ true HE.out HV.out hN).mono ?_
      rintro e w2 ⟨rfl, hb⟩
      replace HV := hide (HV.out.below hb)
      replace BT := hide (BT.out.trans (hb.mono BT.out.size))
      clear hb
      go_wp2_with fail
      refine (elem_is _ zs _ _ false HE2.out HV.out hN).mono ?_
      rintro e w3 ⟨rfl, hb⟩
      replace HV := hide (HV.out.below hb)
      replace BT := hide (BT.out.trans (hb.mono BT.out.size))
      clear hb
      go_wp2
      go_ret
      exact ⟨rfl, BT.out⟩
    | true =>
      have HE2 := hide hE2
      obtain ⟨-, bN, rfl, hkb⟩ := elem_ok hE2
      have hok2 := linkI_ok hok hka hkb
      have hl2 := linkI_len zs aN bN
      have HE3 := hide (elem_ok' hok2 (k := aN) (by rw [hl2]; exact hka))
      have hna := nx_link_a hok hka hkb
      have hpb := hok.len_le hkb
      have hp0 := hok.len_pos hkb
      have hnn : ((zs.length : Int) != (zs.length : Int)) = false := by simp
      obtain ⟨A, c, rfl⟩ := hv.form rfl
      cases hI : inB zs aN bN with
      | false =>
        have HI := hide hI
        have e1 := (len_link_ab hok hka hkb).trans (len_two hok hka hkb hI)
        have hpa := hok.len_pos hka
        have hla := hok.len_le hka
        have ec := cyc_two hok hka hkb hI
        obtain ⟨zs2, hz2⟩ : ∃ z, linkI zs aN bN = z := ⟨_, rfl⟩
        have HZ2 := hide hz2
        rw [hz2] at hok2 hl2 HE3 hna e1 ec
        have HO2 := hide hok2
        have HL2 := hide hl2
        have HEC := hide ec
        obtain ⟨p, hp⟩ : ∃ p, len zs2 aN = p := ⟨_, rfl⟩
        obtain ⟨q, hq⟩ : ∃ q, len zs bN = q := ⟨_, rfl⟩
        have HP := hide hp
        have HQ := hide hq
        rw [hp, hq] at e1
        rw [hq] at hpb hp0 HEC
        have hqp : q < p := by omega
        have hqn : q ≤ 4611686018427387904 := by omega
        clear hE hE2 hok hv hok2 hl2 hz2 hI hna ec hp hq e1 hpa hla
        have BT : Hid (Below w.heap.size w w) := Below.refl _ _
        go_enter Try.func10, Try.ntmps10
        go_wp2_with fail
        refine (elem_is _ zs _ _ true HE.out HV.out hN).mono ?_
        rintro e w4 ⟨rfl, hb⟩
        replace HV := hide (HV.out.below hb)
        replace BT := hide (BT.out.trans (hb.mono BT.out.size))
        clear hb
        go_wp2_with fail
        refine (elem_is _ zs _ _ true HE2.out HV.out hN).mono ?_
        rintro e w5 ⟨rfl, hb⟩
        replace HV := hide (HV.out.below hb)
        replace BT := hide (BT.out.trans (hb.mono BT.out.size))
        clear hb
        go_wp2_with fail
        refine (ringLink_any _ zs aN bN _ HV.out hN HO.out hka hkb).mono ?_
        rintro e w6 ⟨vX, rfl, hf, hb⟩
        replace HV := hide (HV.out.below hb)
        replace BT := hide (BT.out.trans (hb.mono BT.out.size))
        clear hb
        have HX := hide hf.ints
        obtain ⟨AX, cX, rfl⟩ := hf.form (linkI_len zs aN bN)
        clear hf
        rw [HZ2.out] at HX
        go_wp2_with fail
        refine (elem_is _ zs2 _ _ true HE3.out HX.out (by rw [HL2.out]; exact hN)).mono ?_
        rintro e w7 ⟨rfl, hb⟩
        replace HV := hide (HV.out.below hb)
        replace HX := hide (HX.out.below hb)
        replace BT := hide (BT.out.trans (hb.mono BT.out.size))
        clear hb
        go_wp2_with fail
        refine (ringDo_any _ zs2 aN _ HX.out (by rw [HL2.out]; exact hN) HO2.out (by rw [HL2.out]; exact hka)).mono ?_
        rintro e w8 ⟨vL, rfl, hf, hb⟩
        replace HV := hide (HV.out.below hb)
        replace HX := hide (HX.out.below hb)
        replace BT := hide (BT.out.trans (hb.mono BT.out.size))
        clear hb
        have HL := hide hf.ints
        obtain ⟨AL, cL, rfl⟩ := hf.form (cycI_len zs2 aN)
        clear hf
        go_wp2_with fail
        refine (inRing_is _ zs aN bN _ false HI.out HV.out hN HO.out hka).mono ?_
        rintro e w9 ⟨rfl, hb⟩
        replace HV := hide (HV.out.below hb)
        replace HX := hide (HX.out.below hb)
        replace HL := hide (HL.out.below hb)
        replace BT := hide (BT.out.trans (hb.mono BT.out.size))
        clear hb
        go_wp2_with fail
        refine (cycle_any _ zs bN _ HV.out hN HO.out hkb).mono ?_
        rintro e w10 ⟨vD, rfl, hf, hb⟩
        replace HV := hide (HV.out.below hb)
        replace HX := hide (HX.out.below hb)
        replace HL := hide (HL.out.below hb)
        replace BT := hide (BT.out.trans (hb.mono BT.out.size))
        clear hb
        have HD := hide hf.ints
        obtain ⟨AD, cD, rfl⟩ := hf.form ((cycI_len zs bN).trans HQ.out)
        clear hf
        rw [HP.out] at HL ⊢
        obtain ⟨bl, ol, hal, _, _⟩ := HL.out.open_.2.2.2 (by omega)
        subst hal
        have hcl := HL.out.open_.2.1
        have hcl1 : ¬ cL = 1 := by omega
        have h1 := HL.out
        unfold cycI at h1
        rw [HP.out] at h1
        have HS := hide (ints_sub h1 (lo := 1) (m := q) (by omega))
        clear h1
        rw [HEC.out] at HS
        have hi1 : IntKind.i64.wrap ((q : Int) + 1) = (q : Int) + 1 := IntWalk.i64_in _ (by omega)
        go_wp2_with fail
        refine (same_true _ _ (cycI zs bN) _ HS.out HD.out (by rw [cycI_len, HQ.out]; omega)).mono ?_
        rintro e w11 ⟨rfl, hb⟩
        replace HV := hide (HV.out.below hb)
        replace HX := hide (HX.out.below hb)
        replace HL := hide (HL.out.below hb)
        replace HD := hide (HD.out.below hb)
        replace BT := hide (BT.out.trans (hb.mono BT.out.size))
        clear hb
        go_wp2
        go_ret
        exact ⟨rfl, BT.out⟩
      | true =>
        have HI := hide hI
        have hql := hok2.perm.g_lt aN (by rw [hl2]; exact hka)
        have hrl := hok2.perm.g_lt _ hql
        have hfg := hok2.perm.fg _ hql
        have hle2 := hok2.len_le (a := aN) (by rw [hl2]; exact hka)
        rw [hl2] at hql hrl hle2
        obtain ⟨zs2, hz2⟩ : ∃ z, linkI zs aN bN = z := ⟨_, rfl⟩
        have HZ2 := hide hz2
        rw [hz2] at hok2 hl2 HE3 hna hql hrl hfg hle2
        have HO2 := hide hok2
        have HL2 := hide hl2
        obtain ⟨q, hq⟩ : ∃ q, pv zs2 aN = q := ⟨_, rfl⟩
        rw [hq] at hql hrl hfg
        obtain ⟨r, hr⟩ : ∃ r, pv zs2 q = r := ⟨_, rfl⟩
        rw [hr] at hrl hfg
        have HQ := hide hq
        have HR := hide hr
        have HFG := hide hfg
        have hqq : ((q : Int) == (q : Int)) = true := by simp
        by_cases hab : aN = bN
        · subst hab
          have HP := hide (len_self hna)
          have haa : ((aN : Int) == (aN : Int)) = true := by simp
          clear hE hE2 hok hv hok2 hl2 hz2 hI hna hq hr hfg
          have BT : Hid (Below w.heap.size w w) := Below.refl _ _
          go_enter Try.func10, Try.ntmps10
          go_wp2_with fail
          refine (elem_is _ zs _ _ true HE.out HV.out hN).mono ?_
          rintro e w12 ⟨rfl, hb⟩
          replace HV := hide (HV.out.below hb)
          replace BT := hide (BT.out.trans (hb.mono BT.out.size))
          clear hb
          go_wp2_with fail
          refine (elem_is _ zs _ _ true HE2.out HV.out hN).mono ?_
          rintro e w13 ⟨rfl, hb⟩
          replace HV := hide (HV.out.below hb)
          replace BT := hide (BT.out.trans (hb.mono BT.out.size))
          clear hb
          go_wp2_with fail
          refine (ringLink_any _ zs aN aN _ HV.out hN HO.out hka hkb).mono ?_
          rintro e w14 ⟨vX, rfl, hf, hb⟩
          replace HV := hide (HV.out.below hb)
          replace BT := hide (BT.out.trans (hb.mono BT.out.size))
          clear hb
          have HX := hide hf.ints
          obtain ⟨AX, cX, rfl⟩ := hf.form (linkI_len zs aN aN)
          clear hf
          rw [HZ2.out] at HX
          go_wp2_with fail
          refine (elem_is _ zs2 _ _ true HE3.out HX.out (by rw [HL2.out]; exact hN)).mono ?_
          rintro e w15 ⟨rfl, hb⟩
          replace HV := hide (HV.out.below hb)
          replace HX := hide (HX.out.below hb)
          replace BT := hide (BT.out.trans (hb.mono BT.out.size))
          clear hb
          go_wp2_with fail
          refine (ringDo_any _ zs2 aN _ HX.out (by rw [HL2.out]; exact hN) HO2.out (by rw [HL2.out]; exact hka)).mono ?_
          rintro e w16 ⟨vL, rfl, hf, hb⟩
          replace HV := hide (HV.out.below hb)
          replace HX := hide (HX.out.below hb)
          replace BT := hide (BT.out.trans (hb.mono BT.out.size))
          clear hb
          have HL := hide hf.ints
          obtain ⟨AL, cL, rfl⟩ := hf.form ((cycI_len zs2 aN).trans HP.out)
          clear hf
          go_wp2_with fail
          refine (inRing_is _ zs aN aN _ true HI.out HV.out hN HO.out hka).mono ?_
          rintro e w17 ⟨rfl, hb⟩
          replace HV := hide (HV.out.below hb)
          replace HX := hide (HX.out.below hb)
          replace HL := hide (HL.out.below hb)
          replace BT := hide (BT.out.trans (hb.mono BT.out.size))
          clear hb
          obtain ⟨bx, ox, hax, _, _⟩ := HX.out.open_.2.2.2 (by omega)
          subst hax
          go_wp2_with fail
          refine (ringPrev_any _ zs2 aN _ HX.out (by rw [HL2.out]; exact hN) HO2.out (by rw [HL2.out]; exact hka)).mono ?_
          rintro e w18 ⟨rfl, hb⟩
          replace HV := hide (HV.out.below hb)
          replace HX := hide (HX.out.below hb)
          replace HL := hide (HL.out.below hb)
          replace BT := hide (BT.out.trans (hb.mono BT.out.size))
          clear hb
          rw [HQ.out]
          go_wp2_with fail
          refine (before_any _ zs2 aN _ HX.out (by rw [HL2.out]; exact hN) HO2.out (by rw [HL2.out]; exact hka)).mono ?_
          rintro e w19 ⟨rfl, hb⟩
          replace HV := hide (HV.out.below hb)
          replace HX := hide (HX.out.below hb)
          replace HL := hide (HL.out.below hb)
          replace BT := hide (BT.out.trans (hb.mono BT.out.size))
          clear hb
          rw [HQ.out]
          go_wp2_with fail
          refine (before_any _ zs2 q _ HX.out (by rw [HL2.out]; exact hN) HO2.out (by rw [HL2.out]; exact hql)).mono ?_
          rintro e w20 ⟨rfl, hb⟩
          replace HV := hide (HV.out.below hb)
          replace HX := hide (HX.out.below hb)
          replace HL := hide (HL.out.below hb)
          replace BT := hide (BT.out.trans (hb.mono BT.out.size))
          clear hb
          rw [HR.out]
          have hc := ints_cell HX.out (k := r) hrl
          rw [HO2.out.nx_eq (by rw [HL2.out]; exact hrl), HFG.out] at hc
          go_wp2
          go_ret
          exact ⟨rfl, BT.out⟩
        · have hp1 := len_more hok2 (a := aN) (by rw [hl2]; exact hka) (by rw [hna]; exact fun e => hab e.symm)
          obtain ⟨p, hp⟩ : ∃ p, len zs2 aN = p := ⟨_, rfl⟩
          have HP := hide hp
          rw [hp] at hp1 hle2
          have hp2 : ((p : Int) == 1) = false := by simp; omega
          have HNA := hide hna
          have hbb : ((bN : Int) == (bN : Int)) = true := by simp
          clear hE hE2 hok hv hok2 hl2 hz2 hI hna hq hr hfg hp
          have BT : Hid (Below w.heap.size w w) := Below.refl _ _
          go_enter Try.func10, Try.ntmps10
          go_wp2_with fail
          refine (elem_is _ zs _ _ true HE.out HV.out hN).mono ?_
          rintro e w21 ⟨rfl, hb⟩
          replace HV := hide (HV.out.below hb)
          replace BT := hide (BT.out.trans (hb.mono BT.out.size))
          clear hb
          go_wp2_with fail
          refine (elem_is _ zs _ _ true HE2.out HV.out hN).mono ?_
          rintro e w22 ⟨rfl, hb⟩
          replace HV := hide (HV.out.below hb)
          replace BT := hide (BT.out.trans (hb.mono BT.out.size))
          clear hb
          go_wp2_with fail
          refine (ringLink_any _ zs aN bN _ HV.out hN HO.out hka hkb).mono ?_
          rintro e w23 ⟨vX, rfl, hf, hb⟩
          replace HV := hide (HV.out.below hb)
          replace BT := hide (BT.out.trans (hb.mono BT.out.size))
          clear hb
          have HX := hide hf.ints
          obtain ⟨AX, cX, rfl⟩ := hf.form (linkI_len zs aN bN)
          clear hf
          rw [HZ2.out] at HX
          go_wp2_with fail
          refine (elem_is _ zs2 _ _ true HE3.out HX.out (by rw [HL2.out]; exact hN)).mono ?_
          rintro e w24 ⟨rfl, hb⟩
          replace HV := hide (HV.out.below hb)
          replace HX := hide (HX.out.below hb)
          replace BT := hide (BT.out.trans (hb.mono BT.out.size))
          clear hb
          go_wp2_with fail
          refine (ringDo_any _ zs2 aN _ HX.out (by rw [HL2.out]; exact hN) HO2.out (by rw [HL2.out]; exact hka)).mono ?_
          rintro e w25 ⟨vL, rfl, hf, hb⟩
          replace HV := hide (HV.out.below hb)
          replace HX := hide (HX.out.below hb)
          replace BT := hide (BT.out.trans (hb.mono BT.out.size))
          clear hb
          have HL := hide hf.ints
          obtain ⟨AL, cL, rfl⟩ := hf.form (cycI_len zs2 aN)
          clear hf
          go_wp2_with fail
          refine (inRing_is _ zs aN bN _ true HI.out HV.out hN HO.out hka).mono ?_
          rintro e w26 ⟨rfl, hb⟩
          replace HV := hide (HV.out.below hb)
          replace HX := hide (HX.out.below hb)
          replace HL := hide (HL.out.below hb)
          replace BT := hide (BT.out.trans (hb.mono BT.out.size))
          clear hb
          rw [HP.out] at HL ⊢
          obtain ⟨bl, ol, hal, hlb, hcl⟩ := cyc_cell HL.out (by omega)
          have hc1 := hcl 1 hp1
          rw [show orb zs2 aN 1 = bN from HNA.out] at hc1
          subst hal
          clear hcl
          obtain ⟨bx, ox, hax, _, _⟩ := HX.out.open_.2.2.2 (by omega)
          subst hax
          go_wp2_with fail
          refine (ringPrev_any _ zs2 aN _ HX.out (by rw [HL2.out]; exact hN) HO2.out (by rw [HL2.out]; exact hka)).mono ?_
          rintro e w27 ⟨rfl, hb⟩
          replace HV := hide (HV.out.below hb)
          replace HX := hide (HX.out.below hb)
          replace HL := hide (HL.out.below hb)
          replace BT := hide (BT.out.trans (hb.mono BT.out.size))
          clear hb
          rw [HQ.out]
          go_wp2_with fail
          refine (before_any _ zs2 aN _ HX.out (by rw [HL2.out]; exact hN) HO2.out (by rw [HL2.out]; exact hka)).mono ?_
          rintro e w28 ⟨rfl, hb⟩
          replace HV := hide (HV.out.below hb)
          replace HX := hide (HX.out.below hb)
          replace HL := hide (HL.out.below hb)
          replace BT := hide (BT.out.trans (hb.mono BT.out.size))
          clear hb
          rw [HQ.out]
          go_wp2_with fail
          refine (before_any _ zs2 q _ HX.out (by rw [HL2.out]; exact hN) HO2.out (by rw [HL2.out]; exact hql)).mono ?_
          rintro e w29 ⟨rfl, hb⟩
          replace HV := hide (HV.out.below hb)
          replace HX := hide (HX.out.below hb)
          replace HL := hide (HL.out.below hb)
          replace BT := hide (BT.out.trans (hb.mono BT.out.size))
          clear hb
          rw [HR.out]
          have hc := ints_cell HX.out (k := r) hrl
          rw [HO2.out.nx_eq (by rw [HL2.out]; exact hrl), HFG.out] at hc
          go_wp2
          go_ret
          exact ⟨rfl, BT.out⟩

end Go.Proofs.Ytclgdlpnjdogbaa
