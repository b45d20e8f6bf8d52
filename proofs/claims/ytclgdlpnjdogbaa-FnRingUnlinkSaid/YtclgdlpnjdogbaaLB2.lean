/-
  Laws: FnRingUnlink.
-/
import Derived.Test.YtclgdlpnjdogbaaPre
namespace Go.Proofs.Ytclgdlpnjdogbaa
open Go.RowKit

set_option maxHeartbeats 2000000 in
theorem fnRingUnlink_any (v : Value) (zs : List Int) (a : Int) (n : Int) (w : World) (hv : Ints w v zs) (hN : zs.length * 8 ≤ 140737488351232) (_ha : (Lit.int .i64 a).wf = true) (_hn : (Lit.int .i64 n).wf = true) :
    Calls Try.prog 8 #[v, .int .i64 a, .int .i64 n] w fun e w' => e = .returned (.bool true) ∧ Below w.heap.size w w' := by
  have HV := hide hv
  clear _ha _hn
  cases hE : elemB zs a with
  | false =>
    have HE := hide hE
    clear hE hv
    have BT : Hid (Below w.heap.size w w) := Below.refl _ _
    go_enter Try.func8, Try.ntmps8
    go_wp2_with fail
    refine (elem_is _ zs _ _ false HE.out HV.out hN).mono ?_
    rintro e w1 ⟨rfl, hb⟩
    replace HV := hide (HV.out.below hb)
    replace BT := hide (BT.out.trans (hb.mono BT.out.size))
    clear hb
    go_wp2
    go_ret
    exact ⟨rfl, BT.out⟩
  | true =>
    have HE := hide hE
    obtain ⟨hok, aN, rfl, hka⟩ := elem_ok hE
    have HO := hide hok
    by_cases hlo : n < 0
    · clear hE hok hv
      have BT : Hid (Below w.heap.size w w) := Below.refl _ _
      go_enter Try.func8, Try.ntmps8
      go_wp2_with fail
      refine (elem_is _ zs _ _ true HE.out HV.out hN).mono ?_
      rintro e w2 ⟨rfl, hb⟩
      replace HV := hide (HV.out.below hb)
      replace BT := hide (BT.out.trans (hb.mono BT.out.size))
      clear hb
      go_wp2
      go_ret
      exact ⟨rfl, BT.out⟩
    by_cases hhi : 100000 < n
    · clear hE hok hv
      have BT : Hid (Below w.heap.size w w) := Below.refl _ _
      go_enter Try.func8, Try.ntmps8
      go_wp2_with fail
      refine (elem_is _ zs _ _ true HE.out HV.out hN).mono ?_
      rintro e w3 ⟨rfl, hb⟩
      replace HV := hide (HV.out.below hb)
      replace BT := hide (BT.out.trans (hb.mono BT.out.size))
      clear hb
      go_wp2
      go_ret
      exact ⟨rfl, BT.out⟩
    have hp := hok.len_pos hka
    have hll := hok.len_le hka
    have hr0 := Int.emod_nonneg n (show (len zs aN : Int) ≠ 0 by omega)
    have hr1 := Int.emod_lt_of_pos n (show (0 : Int) < (len zs aN : Int) by omega)
    obtain ⟨k, hk⟩ : ∃ k : Nat, n % (len zs aN : Int) = k := ⟨(n % (len zs aN : Int)).toNat, by omega⟩
    have hkp : k < len zs aN := by omega
    have hp0 : ((len zs aN : Int) == 0) = false := by simp; omega
    rcases Int.lt_or_le 0 n with hn0 | hn0
    · rcases Nat.eq_zero_or_pos k with rfl | hk0
      · have hmn := mv_next hok hka (n := n) (by simpa using hk)
        have hls := link_self hok hka
        rw [← hmn] at hls
        have HLS := hide hls
        have hkk : n % (len zs aN : Int) = 0 := by simpa using hk
        clear hE hok hv hk hmn hls hr0 hr1
        have BT : Hid (Below w.heap.size w w) := Below.refl _ _
        go_enter Try.func8, Try.ntmps8
        go_wp2_with fail
        refine (elem_is _ zs _ _ true HE.out HV.out hN).mono ?_
        rintro e w4 ⟨rfl, hb⟩
        replace HV := hide (HV.out.below hb)
        replace BT := hide (BT.out.trans (hb.mono BT.out.size))
        clear hb
        go_wp2_with fail
        refine (ringUnlink_any _ zs aN n _ HV.out hN HO.out hka hn0 (by omega)).mono ?_
        rintro e w5 ⟨vX, rfl, hf, hb⟩
        replace HV := hide (HV.out.below hb)
        replace BT := hide (BT.out.trans (hb.mono BT.out.size))
        clear hb
        have HX := hide hf.ints
        obtain ⟨AX, cX, rfl⟩ := hf.form (linkI_len _ _ _)
        clear hf
        rw [HLS.out] at HX
        go_wp2_with fail
        refine (cycle_any _ zs aN _ HV.out hN HO.out hka).mono ?_
        rintro e w6 ⟨vC, rfl, hf, hb⟩
        replace HV := hide (HV.out.below hb)
        replace HX := hide (HX.out.below hb)
        replace BT := hide (BT.out.trans (hb.mono BT.out.size))
        clear hb
        have HC := hide hf.ints
        obtain ⟨AC, cC, rfl⟩ := hf.form (cycI_len zs aN)
        clear hf
        go_wp2_with fail
        refine (same_true _ _ zs _ HX.out HV.out (by omega)).mono ?_
        rintro e w7 ⟨rfl, hb⟩
        replace HV := hide (HV.out.below hb)
        replace HX := hide (HX.out.below hb)
        replace HC := hide (HC.out.below hb)
        replace BT := hide (BT.out.trans (hb.mono BT.out.size))
        clear hb
        go_wp2
        go_ret
        exact ⟨rfl, BT.out⟩
      · have hmr := mv_rem hok hka hk
        have HMR := hide hmr
        have heq : ((nx zs aN : Int) == (nx zs aN : Int)) = true := by simp
        have hk1 : ((k : Int) == 0) = false := by simp; omega
        clear hE hok hv hmr hr0 hr1
        have BT : Hid (Below w.heap.size w w) := Below.refl _ _
        go_enter Try.func8, Try.ntmps8
        go_wp2_with fail
        refine (elem_is _ zs _ _ true HE.out HV.out hN).mono ?_
        rintro e w8 ⟨rfl, hb⟩
        replace HV := hide (HV.out.below hb)
        replace BT := hide (BT.out.trans (hb.mono BT.out.size))
        clear hb
        go_wp2_with fail
        refine (ringUnlink_any _ zs aN n _ HV.out hN HO.out hka hn0 (by omega)).mono ?_
        rintro e w9 ⟨vX, rfl, hf, hb⟩
        replace HV := hide (HV.out.below hb)
        replace BT := hide (BT.out.trans (hb.mono BT.out.size))
        clear hb
        have HX := hide hf.ints
        obtain ⟨AX, cX, rfl⟩ := hf.form (linkI_len _ _ _)
        clear hf
        rw [HMR.out] at HX
        go_wp2_with fail
        refine (cycle_any _ zs aN _ HV.out hN HO.out hka).mono ?_
        rintro e w10 ⟨vC, rfl, hf, hb⟩
        replace HV := hide (HV.out.below hb)
        replace HX := hide (HX.out.below hb)
        replace BT := hide (BT.out.trans (hb.mono BT.out.size))
        clear hb
        have HC := hide hf.ints
        obtain ⟨AC, cC, rfl⟩ := hf.form (cycI_len zs aN)
        clear hf
        go_wp2_with fail
        rw [hk]
        go_wp2_with fail
        refine (unlinked_any _ zs aN k _ HV.out hN HO.out hka hk0 hkp).mono ?_
        rintro e w11 ⟨vY, rfl, hf, hb⟩
        replace HV := hide (HV.out.below hb)
        replace HX := hide (HX.out.below hb)
        replace HC := hide (HC.out.below hb)
        replace BT := hide (BT.out.trans (hb.mono BT.out.size))
        clear hb
        have HY := hide hf.ints
        obtain ⟨AY, cY, rfl⟩ := hf.form (linkI_len _ _ _)
        clear hf
        go_wp2_with fail
        refine (same_true _ _ (linkI zs aN (orb zs aN (k + 1))) _ HX.out HY.out (by rw [linkI_len]; omega)).mono ?_
        rintro e w12 ⟨rfl, hb⟩
        replace HV := hide (HV.out.below hb)
        replace HX := hide (HX.out.below hb)
        replace HC := hide (HC.out.below hb)
        replace HY := hide (HY.out.below hb)
        replace BT := hide (BT.out.trans (hb.mono BT.out.size))
        clear hb
        go_wp2
        go_ret
        exact ⟨rfl, BT.out⟩
    · obtain rfl : n = 0 := by omega
      obtain rfl : k = 0 := by rw [Int.zero_emod] at hk; omega
      clear hE hok hv hk hr0 hr1
      have BT : Hid (Below w.heap.size w w) := Below.refl _ _
      go_enter Try.func8, Try.ntmps8
      go_wp2_with fail
      refine (elem_is _ zs _ _ true HE.out HV.out hN).mono ?_
      rintro e w13 ⟨rfl, hb⟩
      replace HV := hide (HV.out.below hb)
      replace BT := hide (BT.out.trans (hb.mono BT.out.size))
      clear hb
      go_wp2_with fail
      refine (ringUnlink_none _ zs aN 0 _ HV.out hN HO.out hka (Int.le_refl _)).mono ?_
      rintro e w14 ⟨vX, rfl, hf, hb⟩
      replace HV := hide (HV.out.below hb)
      replace BT := hide (BT.out.trans (hb.mono BT.out.size))
      clear hb
      have HX := hide hf.ints
      obtain ⟨AX, cX, rfl⟩ := hf.form (rfl)
      clear hf
      go_wp2_with fail
      refine (cycle_any _ zs aN _ HV.out hN HO.out hka).mono ?_
      rintro e w15 ⟨vC, rfl, hf, hb⟩
      replace HV := hide (HV.out.below hb)
      replace HX := hide (HX.out.below hb)
      replace BT := hide (BT.out.trans (hb.mono BT.out.size))
      clear hb
      have HC := hide hf.ints
      obtain ⟨AC, cC, rfl⟩ := hf.form (cycI_len zs aN)
      clear hf
      go_wp2_with fail
      refine (same_true _ _ zs _ HX.out HV.out (by omega)).mono ?_
      rintro e w16 ⟨rfl, hb⟩
      replace HV := hide (HV.out.below hb)
      replace HX := hide (HX.out.below hb)
      replace HC := hide (HC.out.below hb)
      replace BT := hide (BT.out.trans (hb.mono BT.out.size))
      clear hb
      go_wp2
      go_ret
      exact ⟨rfl, BT.out⟩

end Go.Proofs.Ytclgdlpnjdogbaa
