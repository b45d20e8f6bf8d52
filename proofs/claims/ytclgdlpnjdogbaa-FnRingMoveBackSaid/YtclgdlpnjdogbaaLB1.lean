/-
  Laws: FnRingLink, FnRingLinkEmpty, FnRingLinkTwice, FnRingMoveBack.
-/
import Derived.Test.YtclgdlpnjdogbaaPre
namespace Go.Proofs.Ytclgdlpnjdogbaa
open Go.RowKit

set_option maxHeartbeats 1000000 in
theorem fnRingLink_any (v : Value) (zs : List Int) (a : Int) (b : Int) (w : World) (hv : Ints w v zs) (hN : zs.length * 8 ≤ 140737488351232) (_ha : (Lit.int .i64 a).wf = true) (_hb : (Lit.int .i64 b).wf = true) :
    Calls Try.prog 4 #[v, .int .i64 a, .int .i64 b] w fun e w' => e = .returned (.bool true) ∧ Below w.heap.size w w' := by
  have HV := hide hv
  clear _ha _hb
  cases hE : elemB zs a with
  | false =>
    have HE := hide hE
    clear hE hv
    have BT : Hid (Below w.heap.size w w) := Below.refl _ _
    go_enter Try.func4, Try.ntmps4
    go_wp2_with fail
    refine (elem_is _ zs _ _ false HE.out HV.out hN).mono ?_
    rintro e w1 ⟨rfl, hb⟩
    replace HV := hide (HV.out.below hb)
    replace BT := hide (BT.out.trans (hb.mono BT.out.size))
    clear hb
    go_wp2
    go_ret
    exact ⟨rfl, BT.out⟩
  | true =>
    have HE := hide hE
    obtain ⟨hok, aN, rfl, hka⟩ := elem_ok hE
    have HO := hide hok
    cases hE2 : elemB zs b with
    | false =>
      have HE2 := hide hE2
      clear hE hE2 hok hv
      have BT : Hid (Below w.heap.size w w) := Below.refl _ _
      go_enter Try.func4, Try.ntmps4
      go_wp2_with fail
      refine (elem_is _ zs _ _ true HE.out HV.out hN).mono ?_
      rintro e w2 ⟨rfl, hb⟩
      replace HV := hide (HV.out.below hb)
      replace BT := hide (BT.out.trans (hb.mono BT.out.size))
      clear hb
      go_wp2_with fail
      refine (elem_is _ zs _ _ false HE2.out HV.out hN).mono ?_
      rintro e w3 ⟨rfl, hb⟩
      replace HV := hide (HV.out.below hb)
      replace BT := hide (BT.out.trans (hb.mono BT.out.size))
      clear hb
      go_wp2
      go_ret
      exact ⟨rfl, BT.out⟩
    | true =>
      have HE2 := hide hE2
      obtain ⟨-, bN, rfl, hkb⟩ := elem_ok hE2
      have heq : ((nx zs aN : Int) == (nx zs aN : Int)) = true := by simp
      clear hE hE2 hok hv
      have BT : Hid (Below w.heap.size w w) := Below.refl _ _
      go_enter Try.func4, Try.ntmps4
      go_wp2_with fail
      refine (elem_is _ zs _ _ true HE.out HV.out hN).mono ?_
      rintro e w4 ⟨rfl, hb⟩
      replace HV := hide (HV.out.below hb)
      replace BT := hide (BT.out.trans (hb.mono BT.out.size))
      clear hb
      go_wp2_with fail
      refine (elem_is _ zs _ _ true HE2.out HV.out hN).mono ?_
      rintro e w5 ⟨rfl, hb⟩
      replace HV := hide (HV.out.below hb)
      replace BT := hide (BT.out.trans (hb.mono BT.out.size))
      clear hb
      go_wp2_with fail
      refine (ringLink_any _ zs aN bN _ HV.out hN HO.out hka hkb).mono ?_
      rintro e w6 ⟨vX, rfl, hf, hb⟩
      replace HV := hide (HV.out.below hb)
      replace BT := hide (BT.out.trans (hb.mono BT.out.size))
      clear hb
      have HX := hide hf.ints
      obtain ⟨AX, cX, rfl⟩ := hf.form (linkI_len zs aN bN)
      clear hf
      go_wp2_with fail
      refine (linked_any _ zs aN bN _ HV.out hN HO.out hka hkb).mono ?_
      rintro e w7 ⟨vY, rfl, hf, hb⟩
      replace HV := hide (HV.out.below hb)
      replace HX := hide (HX.out.below hb)
      replace BT := hide (BT.out.trans (hb.mono BT.out.size))
      clear hb
      have HY := hide hf.ints
      obtain ⟨AY, cY, rfl⟩ := hf.form (linkI_len zs aN bN)
      clear hf
      go_wp2_with fail
      refine (same_true _ _ (linkI zs aN bN) _ HX.out HY.out (by rw [linkI_len]; omega)).mono ?_
      rintro e w8 ⟨rfl, hb⟩
      replace HV := hide (HV.out.below hb)
      replace HX := hide (HX.out.below hb)
      replace HY := hide (HY.out.below hb)
      replace BT := hide (BT.out.trans (hb.mono BT.out.size))
      clear hb
      go_wp2
      go_ret
      exact ⟨rfl, BT.out⟩

set_option maxHeartbeats 1000000 in
theorem fnRingLinkEmpty_any (v : Value) (zs : List Int) (a : Int) (w : World) (hv : Ints w v zs) (hN : zs.length * 8 ≤ 140737488351232) (_ha : (Lit.int .i64 a).wf = true) :
    Calls Try.prog 5 #[v, .int .i64 a] w fun e w' => e = .returned (.bool true) ∧ Below w.heap.size w w' := by
  have HV := hide hv
  clear _ha
  cases hE : elemB zs a with
  | false =>
    have HE := hide hE
    clear hE hv
    have BT : Hid (Below w.heap.size w w) := Below.refl _ _
    go_enter Try.func5, Try.ntmps5
    go_wp2_with fail
    refine (elem_is _ zs _ _ false HE.out HV.out hN).mono ?_
    rintro e w1 ⟨rfl, hb⟩
    replace HV := hide (HV.out.below hb)
    replace BT := hide (BT.out.trans (hb.mono BT.out.size))
    clear hb
    go_wp2
    go_ret
    exact ⟨rfl, BT.out⟩
  | true =>
    have HE := hide hE
    obtain ⟨hok, aN, rfl, hka⟩ := elem_ok hE
    have HO := hide hok
    obtain ⟨bb, off, c, rfl⟩ := ints_addr hv (by omega)
    have heq : ((nx zs aN : Int) == (nx zs aN : Int)) = true := by simp
    clear hE hok hv
    have BT : Hid (Below w.heap.size w w) := Below.refl _ _
    go_enter Try.func5, Try.ntmps5
    go_wp2_with fail
    refine (elem_is _ zs _ _ true HE.out HV.out hN).mono ?_
    rintro e w2 ⟨rfl, hb⟩
    replace HV := hide (HV.out.below hb)
    replace BT := hide (BT.out.trans (hb.mono BT.out.size))
    clear hb
    go_wp2_with fail
    refine (ringLink_none _ zs aN _ HV.out hN HO.out hka).mono ?_
    rintro e w3 ⟨vX, rfl, hf, hb⟩
    replace HV := hide (HV.out.below hb)
    replace BT := hide (BT.out.trans (hb.mono BT.out.size))
    clear hb
    have HX := hide hf.ints
    obtain ⟨AX, cX, rfl⟩ := hf.form (rfl)
    clear hf
    go_wp2_with fail
    refine (same_true _ _ zs _ HX.out HV.out (by omega)).mono ?_
    rintro e w4 ⟨rfl, hb⟩
    replace HV := hide (HV.out.below hb)
    replace HX := hide (HX.out.below hb)
    replace BT := hide (BT.out.trans (hb.mono BT.out.size))
    clear hb
    have hcell := ring_cell HV.out HO.out hka
    go_wp2
    go_ret
    exact ⟨rfl, BT.out⟩

set_option maxHeartbeats 1000000 in
theorem fnRingLinkTwice_any (v : Value) (zs : List Int) (a : Int) (b : Int) (w : World) (hv : Ints w v zs) (hN : zs.length * 8 ≤ 140737488351232) (_ha : (Lit.int .i64 a).wf = true) (_hb : (Lit.int .i64 b).wf = true) :
    Calls Try.prog 6 #[v, .int .i64 a, .int .i64 b] w fun e w' => e = .returned (.bool true) ∧ Below w.heap.size w w' := by
  have HV := hide hv
  clear _ha _hb
  cases hE : elemB zs a with
  | false =>
    have HE := hide hE
    clear hE hv
    have BT : Hid (Below w.heap.size w w) := Below.refl _ _
    go_enter Try.func6, Try.ntmps6
    go_wp2_with fail
    refine (elem_is _ zs _ _ false HE.out HV.out hN).mono ?_
    rintro e w1 ⟨rfl, hb⟩
    replace HV := hide (HV.out.below hb)
    replace BT := hide (BT.out.trans (hb.mono BT.out.size))
    clear hb
    go_wp2
    go_ret
    exact ⟨rfl, BT.out⟩
  | true =>
    have HE := hide hE
    obtain ⟨hok, aN, rfl, hka⟩ := elem_ok hE
    have HO := hide hok
    cases hE2 : elemB zs b with
    | false =>
      have HE2 := hide hE2
      clear hE hE2 hok hv
      have BT : Hid (Below w.heap.size w w) := Below.refl _ _
      go_enter Try.func6, Try.ntmps6
      go_wp2_with fail
      refine (elem_is _ zs _ _ true HE.out HV.out hN).mono ?_
      rintro e w2 ⟨rfl, hb⟩
      replace HV := hide (HV.out.below hb)
      replace BT := hide (BT.out.trans (hb.mono BT.out.size))
      clear hb
      go_wp2_with fail
      refine (elem_is _ zs _ _ false HE2.out HV.out hN).mono ?_
      rintro e w3 ⟨rfl, hb⟩
      replace HV := hide (HV.out.below hb)
      replace BT := hide (BT.out.trans (hb.mono BT.out.size))
      clear hb
      go_wp2
      go_ret
      exact ⟨rfl, BT.out⟩
    | true =>
      have HE2 := hide hE2
      obtain ⟨-, bN, rfl, hkb⟩ := elem_ok hE2
      have hok2 := linkI_ok hok hka hkb
      have hl2 := linkI_len zs aN bN
      have hnl := hok.nx_lt hka
      have HE3 := hide (elem_ok' hok2 (k := nx zs aN) (by rw [hl2]; exact hnl))
      have hbk := link_back hok hka hkb
      have hnb : nx (linkI zs aN bN) aN = bN := by rw [nx_link hka]; exact RM.lkF_a hok.perm hka hkb
      obtain ⟨zs2, hz2⟩ : ∃ z, linkI zs aN bN = z := ⟨_, rfl⟩
      obtain ⟨y, hy⟩ : ∃ y, nx zs aN = y := ⟨_, rfl⟩
      have HZ2 := hide hz2
      have HY := hide hy
      rw [hz2] at hok2 hl2 HE3 hbk hnb
      rw [hy] at HE3 hbk hnl
      have HO2 := hide hok2
      have HL2 := hide hl2
      have HBK := hide hbk
      have HNB := hide hnb
      have heq : ((bN : Int) == (bN : Int)) = true := by simp
      have hnn : ((zs.length : Int) != (zs.length : Int)) = false := by simp
      obtain ⟨A, c, rfl⟩ := hv.form rfl
      clear hE hE2 hok hv hok2 hl2 hbk hnb hz2 hy
      have BT : Hid (Below w.heap.size w w) := Below.refl _ _
      go_enter Try.func6, Try.ntmps6
      go_wp2_with fail
      refine (elem_is _ zs _ _ true HE.out HV.out hN).mono ?_
      rintro e w4 ⟨rfl, hb⟩
      replace HV := hide (HV.out.below hb)
      replace BT := hide (BT.out.trans (hb.mono BT.out.size))
      clear hb
      go_wp2_with fail
      refine (elem_is _ zs _ _ true HE2.out HV.out hN).mono ?_
      rintro e w5 ⟨rfl, hb⟩
      replace HV := hide (HV.out.below hb)
      replace BT := hide (BT.out.trans (hb.mono BT.out.size))
      clear hb
      go_wp2_with fail
      refine (ringLink_any _ zs aN bN _ HV.out hN HO.out hka hkb).mono ?_
      rintro e w6 ⟨vX, rfl, hf, hb⟩
      replace HV := hide (HV.out.below hb)
      replace BT := hide (BT.out.trans (hb.mono BT.out.size))
      clear hb
      have HX := hide hf.ints
      obtain ⟨AX, cX, rfl⟩ := hf.form (linkI_len zs aN bN)
      clear hf
      rw [HZ2.out] at HX
      rw [HY.out]
      go_wp2_with fail
      refine (elem_is _ zs2 _ _ true HE3.out HX.out (by rw [HL2.out]; exact hN)).mono ?_
      rintro e w7 ⟨rfl, hb⟩
      replace HV := hide (HV.out.below hb)
      replace HX := hide (HX.out.below hb)
      replace BT := hide (BT.out.trans (hb.mono BT.out.size))
      clear hb
      go_wp2_with fail
      refine (ringLink_any _ zs2 aN y _ HX.out (by rw [HL2.out]; exact hN) HO2.out (by rw [HL2.out]; exact hka) (by rw [HL2.out]; exact hnl)).mono ?_
      rintro e w8 ⟨vZ, rfl, hf, hb⟩
      replace HV := hide (HV.out.below hb)
      replace HX := hide (HX.out.below hb)
      replace BT := hide (BT.out.trans (hb.mono BT.out.size))
      clear hb
      have HZ := hide hf.ints
      obtain ⟨AZ, cZ, rfl⟩ := hf.form ((linkI_len zs2 aN y).trans HL2.out)
      clear hf
      rw [HBK.out] at HZ
      rw [HNB.out]
      go_wp2_with fail
      refine (same_true _ _ zs _ HZ.out HV.out (by omega)).mono ?_
      rintro e w9 ⟨rfl, hb⟩
      replace HV := hide (HV.out.below hb)
      replace HX := hide (HX.out.below hb)
      replace HZ := hide (HZ.out.below hb)
      replace BT := hide (BT.out.trans (hb.mono BT.out.size))
      clear hb
      go_wp2
      go_ret
      exact ⟨rfl, BT.out⟩

set_option maxHeartbeats 1000000 in
theorem fnRingMoveBack_any (v : Value) (zs : List Int) (a : Int) (n : Int) (w : World) (hv : Ints w v zs) (hN : zs.length * 8 ≤ 140737488351232) (_ha : (Lit.int .i64 a).wf = true) (_hn : (Lit.int .i64 n).wf = true) :
    Calls Try.prog 3 #[v, .int .i64 a, .int .i64 n] w fun e w' => e = .returned (.bool true) ∧ Below w.heap.size w w' := by
  have HV := hide hv
  clear _ha _hn
  cases hE : elemB zs a with
  | false =>
    have HE := hide hE
    clear hE hv
    have BT : Hid (Below w.heap.size w w) := Below.refl _ _
    go_enter Try.func3, Try.ntmps3
    go_wp2_with fail
    refine (elem_is _ zs _ _ false HE.out HV.out hN).mono ?_
    rintro e w1 ⟨rfl, hb⟩
    replace HV := hide (HV.out.below hb)
    replace BT := hide (BT.out.trans (hb.mono BT.out.size))
    clear hb
    go_wp2
    go_ret
    exact ⟨rfl, BT.out⟩
  | true =>
    have HE := hide hE
    obtain ⟨hok, aN, rfl, hka⟩ := elem_ok hE
    have HO := hide hok
    cases hS : stepsB n with
    | false =>
      have HS := hide hS
      clear hE hok hv hS
      have BT : Hid (Below w.heap.size w w) := Below.refl _ _
      go_enter Try.func3, Try.ntmps3
      go_wp2_with fail
      refine (elem_is _ zs _ _ true HE.out HV.out hN).mono ?_
      rintro e w2 ⟨rfl, hb⟩
      replace HV := hide (HV.out.below hb)
      replace BT := hide (BT.out.trans (hb.mono BT.out.size))
      clear hb
      go_wp2_with fail
      refine (steps_is n _ false HS.out).mono ?_
      rintro e w3 ⟨rfl, rfl⟩
      go_wp2
      go_ret
      exact ⟨rfl, BT.out⟩
    | true =>
      have HS := hide hS
      obtain ⟨n1, n2⟩ := steps_ok hS
      have hbl := mv_lt hok hka n
      have HE3 := hide (elem_ok' hok hbl)
      have hun := mv_undo hok hka n
      have hln := mv_len hok hka
      have hz0 := mv_zero hok hka
      have hll := hok.len_le hka
      obtain ⟨y, hy⟩ : ∃ y, mv zs aN n = y := ⟨_, rfl⟩
      have HY := hide hy
      rw [hy] at hbl HE3 hun
      have HUN := hide hun
      have HLN := hide hln
      have HZ0 := hide hz0
      have heq : ((aN : Int) == (aN : Int)) = true := by simp
      clear hE hok hv hS hy hun hln hz0
      have BT : Hid (Below w.heap.size w w) := Below.refl _ _
      go_enter Try.func3, Try.ntmps3
      go_wp2_with fail
      refine (elem_is _ zs _ _ true HE.out HV.out hN).mono ?_
      rintro e w4 ⟨rfl, hb⟩
      replace HV := hide (HV.out.below hb)
      replace BT := hide (BT.out.trans (hb.mono BT.out.size))
      clear hb
      go_wp2_with fail
      refine (steps_is n _ true HS.out).mono ?_
      rintro e w5 ⟨rfl, rfl⟩
      go_wp2_with fail
      refine (ringMove_any _ zs aN n _ HV.out hN HO.out hka (by omega)).mono ?_
      rintro e w6 ⟨rfl, hb⟩
      replace HV := hide (HV.out.below hb)
      replace BT := hide (BT.out.trans (hb.mono BT.out.size))
      clear hb
      rw [HY.out]
      go_wp2_with fail
      refine (elem_is _ zs _ _ true HE3.out HV.out hN).mono ?_
      rintro e w7 ⟨rfl, hb⟩
      replace HV := hide (HV.out.below hb)
      replace BT := hide (BT.out.trans (hb.mono BT.out.size))
      clear hb
      go_wp2_with fail
      refine (ringMove_any _ zs y (-n) _ HV.out hN HO.out hbl (by omega)).mono ?_
      rintro e w8 ⟨rfl, hb⟩
      replace HV := hide (HV.out.below hb)
      replace BT := hide (BT.out.trans (hb.mono BT.out.size))
      clear hb
      rw [HUN.out]
      go_wp2_with fail
      refine (ringLen_any _ zs aN _ HV.out hN HO.out hka).mono ?_
      rintro e w9 ⟨rfl, hb⟩
      replace HV := hide (HV.out.below hb)
      replace BT := hide (BT.out.trans (hb.mono BT.out.size))
      clear hb
      go_wp2_with fail
      refine (ringMove_any _ zs aN (len zs aN : Int) _ HV.out hN HO.out hka (by omega)).mono ?_
      rintro e w10 ⟨rfl, hb⟩
      replace HV := hide (HV.out.below hb)
      replace BT := hide (BT.out.trans (hb.mono BT.out.size))
      clear hb
      rw [HLN.out]
      go_wp2_with fail
      refine (ringMove_any _ zs aN 0 _ HV.out hN HO.out hka (by omega)).mono ?_
      rintro e w11 ⟨rfl, hb⟩
      replace HV := hide (HV.out.below hb)
      replace BT := hide (BT.out.trans (hb.mono BT.out.size))
      clear hb
      rw [HZ0.out]
      go_wp2
      go_ret
      exact ⟨rfl, BT.out⟩

end Go.Proofs.Ytclgdlpnjdogbaa
