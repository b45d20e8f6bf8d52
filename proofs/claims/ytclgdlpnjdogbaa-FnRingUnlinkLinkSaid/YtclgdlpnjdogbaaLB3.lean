/-
  Laws: FnRingUnlinkNone, FnRingUnlinkBack, FnRingUnlinkLink.
-/
import Derived.Test.YtclgdlpnjdogbaaPre
namespace Go.Proofs.Ytclgdlpnjdogbaa
open Go.RowKit

set_option maxHeartbeats 2000000 in
theorem fnRingUnlinkNone_any (v : Value) (zs : List Int) (a : Int) (n : Int) (w : World) (hv : Ints w v zs) (hN : zs.length * 8 ≤ 140737488351232) (_ha : (Lit.int .i64 a).wf = true) (_hn : (Lit.int .i64 n).wf = true) :
    Calls Try.prog 9 #[v, .int .i64 a, .int .i64 n] w fun e w' => e = .returned (.bool true) ∧ Below w.heap.size w w' := by
  have HV := hide hv
  clear _ha _hn
  cases hE : elemB zs a with
  | false =>
    have HE := hide hE
    clear hE hv
    have BT : Hid (Below w.heap.size w w) := Below.refl _ _
    go_enter Try.func9, Try.ntmps9
    go_wp2_with fail
    refine (elem_is _ zs _ _ false HE.out HV.out hN).mono ?_
    rintro e w1 ⟨rfl, hb⟩
    replace HV := hide (HV.out.below hb)
    replace BT := hide (BT.out.trans (hb.mono BT.out.size))
    clear hb
    go_wp2
    go_ret
    exact ⟨rfl, BT.out⟩
  | true =>
    have HE := hide hE
    obtain ⟨hok, aN, rfl, hka⟩ := elem_ok hE
    have HO := hide hok
    obtain ⟨bb, off, c, rfl⟩ := ints_addr hv (by omega)
    cases hS : stepsB n with
    | false =>
      have HS := hide hS
      clear hE hok hv hS
      have BT : Hid (Below w.heap.size w w) := Below.refl _ _
      go_enter Try.func9, Try.ntmps9
      go_wp2_with fail
      refine (elem_is _ zs _ _ true HE.out HV.out hN).mono ?_
      rintro e w2 ⟨rfl, hb⟩
      replace HV := hide (HV.out.below hb)
      replace BT := hide (BT.out.trans (hb.mono BT.out.size))
      clear hb
      go_wp2_with fail
      refine (steps_is n _ false HS.out).mono ?_
      rintro e w3 ⟨rfl, rfl⟩
      go_wp2
      go_ret
      exact ⟨rfl, BT.out⟩
    | true =>
      have HS := hide hS
      obtain ⟨n1, n2⟩ := steps_ok hS
      rcases Int.lt_or_le 0 n with hn0 | hn0
      · have hnl : ¬ n ≤ 0 := by omega
        have hp := hok.len_pos hka
        have hll := hok.len_le hka
        have hr0 := Int.emod_nonneg n (show (len zs aN : Int) ≠ 0 by omega)
        have hr1 := Int.emod_lt_of_pos n (show (0 : Int) < (len zs aN : Int) by omega)
        obtain ⟨k, hk⟩ : ∃ k : Nat, n % (len zs aN : Int) = k := ⟨(n % (len zs aN : Int)).toNat, by omega⟩
        have hkp : k < len zs aN := by omega
        have hp0 : ((len zs aN : Int) == 0) = false := by simp; omega
        rcases Nat.eq_zero_or_pos k with rfl | hk0
        · have hmn := mv_next hok hka (n := n) (by simpa using hk)
          have hls := link_self hok hka
          rw [← hmn] at hls
          have HLS := hide hls
          have hkk : n % (len zs aN : Int) = 0 := by simpa using hk
          have heq : ((nx zs aN : Int) == (nx zs aN : Int)) = true := by simp
          clear hE hok hv hk hmn hls hr0 hr1 hS
          have BT : Hid (Below w.heap.size w w) := Below.refl _ _
          go_enter Try.func9, Try.ntmps9
          go_wp2_with fail
          refine (elem_is _ zs _ _ true HE.out HV.out hN).mono ?_
          rintro e w4 ⟨rfl, hb⟩
          replace HV := hide (HV.out.below hb)
          replace BT := hide (BT.out.trans (hb.mono BT.out.size))
          clear hb
          go_wp2_with fail
          refine (steps_is n _ true HS.out).mono ?_
          rintro e w5 ⟨rfl, rfl⟩
          go_wp2_with fail
          refine (ringUnlink_any _ zs aN n _ HV.out hN HO.out hka hn0 (by omega)).mono ?_
          rintro e w6 ⟨vX, rfl, hf, hb⟩
          replace HV := hide (HV.out.below hb)
          replace BT := hide (BT.out.trans (hb.mono BT.out.size))
          clear hb
          have HX := hide hf.ints
          obtain ⟨AX, cX, rfl⟩ := hf.form (linkI_len _ _ _)
          clear hf
          rw [HLS.out] at HX
          go_wp2_with fail
          refine (cycle_any _ zs aN _ HV.out hN HO.out hka).mono ?_
          rintro e w7 ⟨vC, rfl, hf, hb⟩
          replace HV := hide (HV.out.below hb)
          replace HX := hide (HX.out.below hb)
          replace BT := hide (BT.out.trans (hb.mono BT.out.size))
          clear hb
          have HC := hide hf.ints
          obtain ⟨AC, cC, rfl⟩ := hf.form (cycI_len zs aN)
          clear hf
          go_wp2_with fail
          refine (same_true _ _ zs _ HX.out HV.out (by omega)).mono ?_
          rintro e w8 ⟨rfl, hb⟩
          replace HV := hide (HV.out.below hb)
          replace HX := hide (HX.out.below hb)
          replace HC := hide (HC.out.below hb)
          replace BT := hide (BT.out.trans (hb.mono BT.out.size))
          clear hb
          have hcell := ring_cell HV.out HO.out hka
          go_wp2
          go_ret
          exact ⟨rfl, BT.out⟩
        · have hk1 : ((k : Int) != 0) = true := by simp; omega
          clear hE hok hv hr0 hr1 hS
          have BT : Hid (Below w.heap.size w w) := Below.refl _ _
          go_enter Try.func9, Try.ntmps9
          go_wp2_with fail
          refine (elem_is _ zs _ _ true HE.out HV.out hN).mono ?_
          rintro e w9 ⟨rfl, hb⟩
          replace HV := hide (HV.out.below hb)
          replace BT := hide (BT.out.trans (hb.mono BT.out.size))
          clear hb
          go_wp2_with fail
          refine (steps_is n _ true HS.out).mono ?_
          rintro e w10 ⟨rfl, rfl⟩
          go_wp2_with fail
          refine (ringUnlink_any _ zs aN n _ HV.out hN HO.out hka hn0 (by omega)).mono ?_
          rintro e w11 ⟨vX, rfl, hf, hb⟩
          replace HV := hide (HV.out.below hb)
          replace BT := hide (BT.out.trans (hb.mono BT.out.size))
          clear hb
          have HX := hide hf.ints
          obtain ⟨AX, cX, rfl⟩ := hf.form (linkI_len _ _ _)
          clear hf
          go_wp2_with fail
          refine (cycle_any _ zs aN _ HV.out hN HO.out hka).mono ?_
          rintro e w12 ⟨vC, rfl, hf, hb⟩
          replace HV := hide (HV.out.below hb)
          replace HX := hide (HX.out.below hb)
          replace BT := hide (BT.out.trans (hb.mono BT.out.size))
          clear hb
          have HC := hide hf.ints
          obtain ⟨AC, cC, rfl⟩ := hf.form (cycI_len zs aN)
          clear hf
          go_wp2
          go_ret
          exact ⟨rfl, BT.out⟩
      · clear hE hok hv hS
        have BT : Hid (Below w.heap.size w w) := Below.refl _ _
        go_enter Try.func9, Try.ntmps9
        go_wp2_with fail
        refine (elem_is _ zs _ _ true HE.out HV.out hN).mono ?_
        rintro e w13 ⟨rfl, hb⟩
        replace HV := hide (HV.out.below hb)
        replace BT := hide (BT.out.trans (hb.mono BT.out.size))
        clear hb
        go_wp2_with fail
        refine (steps_is n _ true HS.out).mono ?_
        rintro e w14 ⟨rfl, rfl⟩
        go_wp2_with fail
        refine (ringUnlink_none _ zs aN n _ HV.out hN HO.out hka hn0).mono ?_
        rintro e w15 ⟨vX, rfl, hf, hb⟩
        replace HV := hide (HV.out.below hb)
        replace BT := hide (BT.out.trans (hb.mono BT.out.size))
        clear hb
        have HX := hide hf.ints
        obtain ⟨AX, cX, rfl⟩ := hf.form (rfl)
        clear hf
        go_wp2_with fail
        refine (same_true _ _ zs _ HX.out HV.out (by omega)).mono ?_
        rintro e w16 ⟨rfl, hb⟩
        replace HV := hide (HV.out.below hb)
        replace HX := hide (HX.out.below hb)
        replace BT := hide (BT.out.trans (hb.mono BT.out.size))
        clear hb
        go_wp2
        go_ret
        exact ⟨rfl, BT.out⟩

set_option maxHeartbeats 2000000 in
theorem fnRingUnlinkBack_any (v : Value) (zs : List Int) (a : Int) (n : Int) (w : World) (hv : Ints w v zs) (hN : zs.length * 8 ≤ 140737488351232) (_ha : (Lit.int .i64 a).wf = true) (_hn : (Lit.int .i64 n).wf = true) :
    Calls Try.prog 12 #[v, .int .i64 a, .int .i64 n] w fun e w' => e = .returned (.bool true) ∧ Below w.heap.size w w' := by
  have HV := hide hv
  clear _ha _hn
  cases hE : elemB zs a with
  | false =>
    have HE := hide hE
    clear hE hv
    have BT : Hid (Below w.heap.size w w) := Below.refl _ _
    go_enter Try.func12, Try.ntmps12
    go_wp2_with fail
    refine (elem_is _ zs _ _ false HE.out HV.out hN).mono ?_
    rintro e w1 ⟨rfl, hb⟩
    replace HV := hide (HV.out.below hb)
    replace BT := hide (BT.out.trans (hb.mono BT.out.size))
    clear hb
    go_wp2
    go_ret
    exact ⟨rfl, BT.out⟩
  | true =>
    have HE := hide hE
    obtain ⟨hok, aN, rfl, hka⟩ := elem_ok hE
    have HO := hide hok
    by_cases hlo : n < 1
    · clear hE hok hv
      have BT : Hid (Below w.heap.size w w) := Below.refl _ _
      go_enter Try.func12, Try.ntmps12
      go_wp2_with fail
      refine (elem_is _ zs _ _ true HE.out HV.out hN).mono ?_
      rintro e w2 ⟨rfl, hb⟩
      replace HV := hide (HV.out.below hb)
      replace BT := hide (BT.out.trans (hb.mono BT.out.size))
      clear hb
      go_wp2
      go_ret
      exact ⟨rfl, BT.out⟩
    by_cases hhi : 100000 < n
    · clear hE hok hv
      have BT : Hid (Below w.heap.size w w) := Below.refl _ _
      go_enter Try.func12, Try.ntmps12
      go_wp2_with fail
      refine (elem_is _ zs _ _ true HE.out HV.out hN).mono ?_
      rintro e w3 ⟨rfl, hb⟩
      replace HV := hide (HV.out.below hb)
      replace BT := hide (BT.out.trans (hb.mono BT.out.size))
      clear hb
      go_wp2
      go_ret
      exact ⟨rfl, BT.out⟩
    have hp := hok.len_pos hka
    have hll := hok.len_le hka
    have hr0 := Int.emod_nonneg n (show (len zs aN : Int) ≠ 0 by omega)
    have hr1 := Int.emod_lt_of_pos n (show (0 : Int) < (len zs aN : Int) by omega)
    obtain ⟨k, hk⟩ : ∃ k : Nat, n % (len zs aN : Int) = k := ⟨(n % (len zs aN : Int)).toNat, by omega⟩
    have hkp : k < len zs aN := by omega
    have hp0 : ((len zs aN : Int) == 0) = false := by simp; omega
    have hnn0 : 0 ≤ n := by omega
    rcases Nat.eq_zero_or_pos k with rfl | hk0
    · have hkk : n % (len zs aN : Int) = 0 := by simpa using hk
      clear hE hok hv hk hr0 hr1
      have BT : Hid (Below w.heap.size w w) := Below.refl _ _
      go_enter Try.func12, Try.ntmps12
      go_wp2_with fail
      refine (elem_is _ zs _ _ true HE.out HV.out hN).mono ?_
      rintro e w4 ⟨rfl, hb⟩
      replace HV := hide (HV.out.below hb)
      replace BT := hide (BT.out.trans (hb.mono BT.out.size))
      clear hb
      go_wp2_with fail
      refine (cycle_any _ zs aN _ HV.out hN HO.out hka).mono ?_
      rintro e w5 ⟨vC, rfl, hf, hb⟩
      replace HV := hide (HV.out.below hb)
      replace BT := hide (BT.out.trans (hb.mono BT.out.size))
      clear hb
      have HC := hide hf.ints
      obtain ⟨AC, cC, rfl⟩ := hf.form (cycI_len zs aN)
      clear hf
      go_wp2
      go_ret
      exact ⟨rfl, BT.out⟩
    have hbl := mv_lt hok hka (n + 1)
    have hok2 := linkI_ok hok hka hbl
    have hl2 := linkI_len zs aN (mv zs aN (n + 1))
    have hnl := hok.nx_lt hka
    have HE3 := hide (elem_ok' hok2 (k := nx zs aN) (by rw [hl2]; exact hnl))
    have hbk := link_back hok hka hbl
    obtain ⟨zs2, hz2⟩ : ∃ z, linkI zs aN (mv zs aN (n + 1)) = z := ⟨_, rfl⟩
    obtain ⟨y, hy⟩ : ∃ y, nx zs aN = y := ⟨_, rfl⟩
    have HZ2 := hide hz2
    have HY := hide hy
    rw [hz2] at hok2 hl2 HE3 hbk
    rw [hy] at HE3 hbk hnl
    have HO2 := hide hok2
    have HL2 := hide hl2
    have HBK := hide hbk
    have hnn : ((zs.length : Int) != (zs.length : Int)) = false := by simp
    obtain ⟨A, c, rfl⟩ := hv.form rfl
    have hk1 : ((k : Int) == 0) = false := by simp; omega
    clear hE hok hv hok2 hl2 hbk hz2 hy hr0 hr1 hbl
    have BT : Hid (Below w.heap.size w w) := Below.refl _ _
    go_enter Try.func12, Try.ntmps12
    go_wp2_with fail
    refine (elem_is _ zs _ _ true HE.out HV.out hN).mono ?_
    rintro e w6 ⟨rfl, hb⟩
    replace HV := hide (HV.out.below hb)
    replace BT := hide (BT.out.trans (hb.mono BT.out.size))
    clear hb
    go_wp2_with fail
    refine (cycle_any _ zs aN _ HV.out hN HO.out hka).mono ?_
    rintro e w7 ⟨vC, rfl, hf, hb⟩
    replace HV := hide (HV.out.below hb)
    replace BT := hide (BT.out.trans (hb.mono BT.out.size))
    clear hb
    have HC := hide hf.ints
    obtain ⟨AC, cC, rfl⟩ := hf.form (cycI_len zs aN)
    clear hf
    go_wp2_with fail
    refine (ringUnlink_any _ zs aN n _ HV.out hN HO.out hka (by omega) (by omega)).mono ?_
    rintro e w8 ⟨vX, rfl, hf, hb⟩
    replace HV := hide (HV.out.below hb)
    replace HC := hide (HC.out.below hb)
    replace BT := hide (BT.out.trans (hb.mono BT.out.size))
    clear hb
    have HX := hide hf.ints
    obtain ⟨AX, cX, rfl⟩ := hf.form (linkI_len _ _ _)
    clear hf
    rw [HZ2.out] at HX
    rw [HY.out]
    go_wp2_with fail
    refine (elem_is _ zs2 _ _ true HE3.out HX.out (by rw [HL2.out]; exact hN)).mono ?_
    rintro e w9 ⟨rfl, hb⟩
    replace HV := hide (HV.out.below hb)
    replace HC := hide (HC.out.below hb)
    replace HX := hide (HX.out.below hb)
    replace BT := hide (BT.out.trans (hb.mono BT.out.size))
    clear hb
    go_wp2_with fail
    refine (ringLink_any _ zs2 aN y _ HX.out (by rw [HL2.out]; exact hN) HO2.out (by rw [HL2.out]; exact hka) (by rw [HL2.out]; exact hnl)).mono ?_
    rintro e w10 ⟨vZ, rfl, hf, hb⟩
    replace HV := hide (HV.out.below hb)
    replace HC := hide (HC.out.below hb)
    replace HX := hide (HX.out.below hb)
    replace BT := hide (BT.out.trans (hb.mono BT.out.size))
    clear hb
    have HZ := hide hf.ints
    obtain ⟨AZ, cZ, rfl⟩ := hf.form ((linkI_len zs2 aN y).trans HL2.out)
    clear hf
    rw [HBK.out] at HZ
    go_wp2_with fail
    refine (same_true _ _ zs _ HZ.out HV.out (by omega)).mono ?_
    rintro e w11 ⟨rfl, hb⟩
    replace HV := hide (HV.out.below hb)
    replace HC := hide (HC.out.below hb)
    replace HX := hide (HX.out.below hb)
    replace HZ := hide (HZ.out.below hb)
    replace BT := hide (BT.out.trans (hb.mono BT.out.size))
    clear hb
    go_wp2
    go_ret
    exact ⟨rfl, BT.out⟩

set_option maxHeartbeats 2000000 in
theorem fnRingUnlinkLink_any (v : Value) (zs : List Int) (a : Int) (n : Int) (w : World) (hv : Ints w v zs) (hN : zs.length * 8 ≤ 140737488351232) (_ha : (Lit.int .i64 a).wf = true) (_hn : (Lit.int .i64 n).wf = true) :
    Calls Try.prog 13 #[v, .int .i64 a, .int .i64 n] w fun e w' => e = .returned (.bool true) ∧ Below w.heap.size w w' := by
  have HV := hide hv
  clear _ha _hn
  cases hE : elemB zs a with
  | false =>
    have HE := hide hE
    clear hE hv
    have BT : Hid (Below w.heap.size w w) := Below.refl _ _
    go_enter Try.func13, Try.ntmps13
    go_wp2_with fail
    refine (elem_is _ zs _ _ false HE.out HV.out hN).mono ?_
    rintro e w1 ⟨rfl, hb⟩
    replace HV := hide (HV.out.below hb)
    replace BT := hide (BT.out.trans (hb.mono BT.out.size))
    clear hb
    go_wp2
    go_ret
    exact ⟨rfl, BT.out⟩
  | true =>
    have HE := hide hE
    obtain ⟨hok, aN, rfl, hka⟩ := elem_ok hE
    have HO := hide hok
    by_cases hlo : n < 1
    · clear hE hok hv
      have BT : Hid (Below w.heap.size w w) := Below.refl _ _
      go_enter Try.func13, Try.ntmps13
      go_wp2_with fail
      refine (elem_is _ zs _ _ true HE.out HV.out hN).mono ?_
      rintro e w2 ⟨rfl, hb⟩
      replace HV := hide (HV.out.below hb)
      replace BT := hide (BT.out.trans (hb.mono BT.out.size))
      clear hb
      go_wp2
      go_ret
      exact ⟨rfl, BT.out⟩
    by_cases hhi : 100000 ≤ n
    · clear hE hok hv
      have BT : Hid (Below w.heap.size w w) := Below.refl _ _
      go_enter Try.func13, Try.ntmps13
      go_wp2_with fail
      refine (elem_is _ zs _ _ true HE.out HV.out hN).mono ?_
      rintro e w3 ⟨rfl, hb⟩
      replace HV := hide (HV.out.below hb)
      replace BT := hide (BT.out.trans (hb.mono BT.out.size))
      clear hb
      go_wp2
      go_ret
      exact ⟨rfl, BT.out⟩
    have hp := hok.len_pos hka
    have hll := hok.len_le hka
    have hr0 := Int.emod_nonneg n (show (len zs aN : Int) ≠ 0 by omega)
    have hr1 := Int.emod_lt_of_pos n (show (0 : Int) < (len zs aN : Int) by omega)
    obtain ⟨k, hk⟩ : ∃ k : Nat, n % (len zs aN : Int) = k := ⟨(n % (len zs aN : Int)).toNat, by omega⟩
    have hkp : k < len zs aN := by omega
    have hp0 : ((len zs aN : Int) == 0) = false := by simp; omega
    have hnn0 : 0 ≤ n := by omega
    rcases Nat.eq_zero_or_pos k with rfl | hk0
    · have hkk : n % (len zs aN : Int) = 0 := by simpa using hk
      clear hE hok hv hk hr0 hr1
      have BT : Hid (Below w.heap.size w w) := Below.refl _ _
      go_enter Try.func13, Try.ntmps13
      go_wp2_with fail
      refine (elem_is _ zs _ _ true HE.out HV.out hN).mono ?_
      rintro e w4 ⟨rfl, hb⟩
      replace HV := hide (HV.out.below hb)
      replace BT := hide (BT.out.trans (hb.mono BT.out.size))
      clear hb
      go_wp2_with fail
      refine (cycle_any _ zs aN _ HV.out hN HO.out hka).mono ?_
      rintro e w5 ⟨vC, rfl, hf, hb⟩
      replace HV := hide (HV.out.below hb)
      replace BT := hide (BT.out.trans (hb.mono BT.out.size))
      clear hb
      have HC := hide hf.ints
      obtain ⟨AC, cC, rfl⟩ := hf.form (cycI_len zs aN)
      clear hf
      go_wp2
      go_ret
      exact ⟨rfl, BT.out⟩
    have hbl := mv_lt hok hka (n + 1)
    have HE3 := hide (elem_ok' hok hbl)
    obtain ⟨y, hy⟩ : ∃ y, mv zs aN (n + 1) = y := ⟨_, rfl⟩
    have HY := hide hy
    rw [hy] at hbl HE3
    have heq : ((nx zs aN : Int) == (nx zs aN : Int)) = true := by simp
    have hnn : ((zs.length : Int) == (zs.length : Int)) = true := by simp
    obtain ⟨A, c, rfl⟩ := hv.form rfl
    have hk1 : ((k : Int) == 0) = false := by simp; omega
    clear hE hok hv hy hr0 hr1
    have BT : Hid (Below w.heap.size w w) := Below.refl _ _
    go_enter Try.func13, Try.ntmps13
    go_wp2_with fail
    refine (elem_is _ zs _ _ true HE.out HV.out hN).mono ?_
    rintro e w6 ⟨rfl, hb⟩
    replace HV := hide (HV.out.below hb)
    replace BT := hide (BT.out.trans (hb.mono BT.out.size))
    clear hb
    go_wp2_with fail
    refine (cycle_any _ zs aN _ HV.out hN HO.out hka).mono ?_
    rintro e w7 ⟨vC, rfl, hf, hb⟩
    replace HV := hide (HV.out.below hb)
    replace BT := hide (BT.out.trans (hb.mono BT.out.size))
    clear hb
    have HC := hide hf.ints
    obtain ⟨AC, cC, rfl⟩ := hf.form (cycI_len zs aN)
    clear hf
    go_wp2_with fail
    refine (ringMove_any _ zs aN (n + 1) _ HV.out hN HO.out hka (by omega)).mono ?_
    rintro e w8 ⟨rfl, hb⟩
    replace HV := hide (HV.out.below hb)
    replace HC := hide (HC.out.below hb)
    replace BT := hide (BT.out.trans (hb.mono BT.out.size))
    clear hb
    rw [HY.out]
    go_wp2_with fail
    refine (elem_is _ zs _ _ true HE3.out HV.out hN).mono ?_
    rintro e w9 ⟨rfl, hb⟩
    replace HV := hide (HV.out.below hb)
    replace HC := hide (HC.out.below hb)
    replace BT := hide (BT.out.trans (hb.mono BT.out.size))
    clear hb
    go_wp2_with fail
    refine (ringUnlink_any _ zs aN n _ HV.out hN HO.out hka (by omega) (by omega)).mono ?_
    rintro e w10 ⟨vX, rfl, hf, hb⟩
    replace HV := hide (HV.out.below hb)
    replace HC := hide (HC.out.below hb)
    replace BT := hide (BT.out.trans (hb.mono BT.out.size))
    clear hb
    have HX := hide hf.ints
    obtain ⟨AX, cX, rfl⟩ := hf.form (linkI_len _ _ _)
    clear hf
    rw [HY.out] at HX
    go_wp2_with fail
    refine (ringLink_any _ zs aN y _ HV.out hN HO.out hka hbl).mono ?_
    rintro e w11 ⟨vZ, rfl, hf, hb⟩
    replace HV := hide (HV.out.below hb)
    replace HC := hide (HC.out.below hb)
    replace HX := hide (HX.out.below hb)
    replace BT := hide (BT.out.trans (hb.mono BT.out.size))
    clear hb
    have HZ := hide hf.ints
    obtain ⟨AZ, cZ, rfl⟩ := hf.form (linkI_len _ _ _)
    clear hf
    go_wp2_with fail
    refine (same_true _ _ (linkI zs aN y) _ HX.out HZ.out (by rw [linkI_len]; omega)).mono ?_
    rintro e w12 ⟨rfl, hb⟩
    replace HV := hide (HV.out.below hb)
    replace HC := hide (HC.out.below hb)
    replace HX := hide (HX.out.below hb)
    replace HZ := hide (HZ.out.below hb)
    replace BT := hide (BT.out.trans (hb.mono BT.out.size))
    clear hb
    go_wp2
    go_ret
    exact ⟨rfl, BT.out⟩

end Go.Proofs.Ytclgdlpnjdogbaa
