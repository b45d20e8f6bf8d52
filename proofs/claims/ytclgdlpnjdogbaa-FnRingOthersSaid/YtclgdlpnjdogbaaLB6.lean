/-
  FnRingOthers.
-/
import Derived.Test.YtclgdlpnjdogbaaLMath
namespace Go.Proofs.Ytclgdlpnjdogbaa
open Go.RowKit

theorem not_in {zs : List Int} {a i : Nat} (_hok : RingsOk zs) (_ha : a < zs.length) (h : inB zs a i = false) {j : Nat} (hj : RM.Orb (nx zs) zs.length a j) : i ≠ j := fun e => by
  subst e
  exact inB_false h hj

theorem link_other {zs : List Int} {a b i : Nat} (hok : RingsOk zs) (ha : a < zs.length) (hb : b < zs.length) (hi : i < zs.length) (h1 : inB zs a i = false) (h2 : inB zs b i = false) : nx (linkI zs a b) i = nx zs i := by
  rw [nx_link hi]
  exact RM.lkF_other (not_in hok ha h1 (hok.perm.orb_refl ha)) (not_in hok hb h2 (hok.perm.orb_g hb))

theorem unlink_other {zs : List Int} {a i : Nat} (hok : RingsOk zs) (ha : a < zs.length) (x : Int) (hi : i < zs.length) (h1 : inB zs a i = false) : nx (linkI zs a (mv zs a x)) i = nx zs i := by
  rw [nx_link hi]
  exact RM.lkF_other (not_in hok ha h1 (hok.perm.orb_refl ha)) (not_in hok ha h1 (hok.perm.orb_trans ha (hok.perm.orb_of ha _) (hok.perm.orb_g (mv_lt hok ha x))))

/-- What RingUnlink does, for every n that is not negative. -/
theorem unlink_nn (v : Value) (zs : List Int) (a : Nat) (n : Int) (hN : zs.length * 8 ≤ 140737488351232) (hok : RingsOk zs) (ha : a < zs.length) (_hn : 0 ≤ n) (hn2 : n ≤ 100000) :
    ∃ (Y : List Int) (r : Int), RingsOk Y ∧ Y.length = zs.length ∧ (∀ i, i < zs.length → inB zs a i = false → nx Y i = nx zs i) ∧
      ∀ w, Ints w v zs → Calls Try.prog 24 #[v, .int .i64 a, .int .i64 n] w fun e w' => ∃ v', e = .returned (.tuple #[v', .int .i64 r]) ∧ Fresh w.heap.size w' v' Y ∧ Below w.heap.size w w' := by
  rcases Int.lt_or_le 0 n with h0 | h0
  · exact ⟨_, _, linkI_ok hok ha (mv_lt hok ha (n + 1)), linkI_len _ _ _, fun i hi h => unlink_other hok ha _ hi h, fun w hv => ringUnlink_any v zs a n w hv hN hok ha h0 hn2⟩
  · exact ⟨_, _, hok, rfl, fun _ _ _ => rfl, fun w hv => ringUnlink_none v zs a n w hv hN hok ha h0⟩

set_option maxHeartbeats 2000000 in
theorem fnRingOthers_any (v : Value) (zs : List Int) (a b n : Int) (w : World) (hv : Ints w v zs) (hN : zs.length * 8 ≤ 140737488351232) (_ha : (Lit.int .i64 a).wf = true) (_hb : (Lit.int .i64 b).wf = true) (_hn : (Lit.int .i64 n).wf = true) :
    Calls Try.prog 11 #[v, .int .i64 a, .int .i64 b, .int .i64 n] w fun e w' => e = .returned (.bool true) ∧ Below w.heap.size w w' := by
  have HV := hide hv
  clear _ha _hb _hn
  cases hE : elemB zs a with
  | false =>
    have HE := hide hE
    clear hE hv
    go_enter Try.func11, Try.ntmps11
    go_wp2_with (go_at_call 15; refine (elem_is _ zs _ _ false HE.out HV.out hN).mono ?_; rintro e w1 ⟨rfl, hb1⟩)
    go_ret
    exact ⟨rfl, hb1⟩
  | true =>
  have HE := hide hE
  obtain ⟨hok, aN, rfl, hka⟩ := elem_ok hE
  have HO := hide hok
  cases hE2 : elemB zs b with
  | false =>
    have HE2 := hide hE2
    clear hE hE2 hok hv
    go_enter Try.func11, Try.ntmps11
    go_wp2_with fail
    refine (elem_is _ zs _ _ true HE.out HV.out hN).mono ?_
    rintro e w1 ⟨rfl, hb1⟩
    go_wp2_with fail
    refine (elem_is _ zs _ _ false HE2.out (HV.out.below hb1) hN).mono ?_
    rintro e w2 ⟨rfl, hb2⟩
    go_wp2
    go_ret
    exact ⟨rfl, hb1.trans (hb2.mono hb1.size)⟩
  | true =>
  have HE2 := hide hE2
  obtain ⟨-, bN, rfl, hkb⟩ := elem_ok hE2
  by_cases hlo : n < 0
  · clear hE hE2 hok hv
    go_enter Try.func11, Try.ntmps11
    go_wp2_with fail
    refine (elem_is _ zs _ _ true HE.out HV.out hN).mono ?_
    rintro e w1 ⟨rfl, hb1⟩
    go_wp2_with fail
    refine (elem_is _ zs _ _ true HE2.out (HV.out.below hb1) hN).mono ?_
    rintro e w2 ⟨rfl, hb2⟩
    go_wp2
    go_ret
    exact ⟨rfl, hb1.trans (hb2.mono hb1.size)⟩
  by_cases hhi : 100000 < n
  · clear hE hE2 hok hv
    go_enter Try.func11, Try.ntmps11
    go_wp2_with fail
    refine (elem_is _ zs _ _ true HE.out HV.out hN).mono ?_
    rintro e w1 ⟨rfl, hb1⟩
    go_wp2_with fail
    refine (elem_is _ zs _ _ true HE2.out (HV.out.below hb1) hN).mono ?_
    rintro e w2 ⟨rfl, hb2⟩
    go_wp2
    go_ret
    exact ⟨rfl, hb1.trans (hb2.mono hb1.size)⟩
  obtain ⟨Y, r, hokY, hlY, hYi, hcY⟩ := unlink_nn v zs aN n hN hok hka (by omega) (by omega)
  have hokX := linkI_ok hok hka hkb
  have hlX := linkI_len zs aN bN
  have HXi : Hid (∀ i, i < zs.length → inB zs aN i = false → inB zs bN i = false → nx (linkI zs aN bN) i = nx zs i) := fun i hi h1 h2 => link_other hok hka hkb hi h1 h2
  obtain ⟨X, hX⟩ : ∃ X, linkI zs aN bN = X := ⟨_, rfl⟩
  have HX := hide hX
  rw [hX] at hokX hlX HXi
  have HRX := hide (ringsB_of hokX)
  have HRY := hide (ringsB_of hokY)
  have HOX := hide hokX
  have HOY := hide hokY
  have HLX := hide hlX
  have HLY := hide hlY
  have HYi := hide hYi
  have HCY := hide hcY
  obtain ⟨bb, off, c, rfl⟩ := ints_addr hv (by omega)
  have hnn : ((zs.length : Int) != (zs.length : Int)) = false := by simp
  clear hE hE2 hok hv hokX hokY hlX hlY hYi hcY hX
  go_enter Try.func11, Try.ntmps11
  go_wp2_with fail
  refine (elem_is _ zs _ _ true HE.out HV.out hN).mono ?_
  rintro e w1 ⟨rfl, hb⟩
  replace HV := hide (HV.out.below hb)
  have BT := hide hb
  clear hb
  go_wp2_with fail
  refine (elem_is _ zs _ _ true HE2.out HV.out hN).mono ?_
  rintro e w2 ⟨rfl, hb⟩
  replace HV := hide (HV.out.below hb)
  replace BT := hide (BT.out.trans (hb.mono BT.out.size))
  clear hb
  go_wp2_with fail
  refine (ringLink_any _ zs aN bN _ HV.out hN HO.out hka hkb).mono ?_
  rintro e w3 ⟨vx, rfl, hf, hb⟩
  rw [HX.out] at hf
  replace HV := hide (HV.out.below hb)
  replace BT := hide (BT.out.trans (hb.mono BT.out.size))
  have HVX := hide hf.ints
  obtain ⟨bx, ox, cx, hvx⟩ := ints_addr hf.ints (by rw [HLX.out]; omega)
  rw [HLX.out] at hvx
  subst hvx
  clear hf hb
  go_wp2_with fail
  refine (HCY.out _ HV.out).mono ?_
  rintro e w4 ⟨vy, rfl, hf, hb⟩
  replace HV := hide (HV.out.below hb)
  replace HVX := hide (HVX.out.below hb)
  replace BT := hide (BT.out.trans (hb.mono BT.out.size))
  have HVY := hide hf.ints
  obtain ⟨byy, oy, cy, hvy⟩ := ints_addr hf.ints (by rw [HLY.out]; omega)
  rw [HLY.out] at hvy
  subst hvy
  clear hf hb
  go_wp2_with fail
  refine (rings_is _ X _ true HRX.out HVX.out (by rw [HLX.out]; exact hN)).mono ?_
  rintro e w5 ⟨rfl, hb⟩
  replace HV := hide (HV.out.below hb)
  replace HVX := hide (HVX.out.below hb)
  replace HVY := hide (HVY.out.below hb)
  replace BT := hide (BT.out.trans (hb.mono BT.out.size))
  clear hb
  go_wp2_with fail
  refine (rings_is _ Y _ true HRY.out HVY.out (by rw [HLY.out]; exact hN)).mono ?_
  rintro e w6 ⟨rfl, hb⟩
  replace HV := hide (HV.out.below hb)
  replace HVX := hide (HVX.out.below hb)
  replace HVY := hide (HVY.out.below hb)
  replace BT := hide (BT.out.trans (hb.mono BT.out.size))
  clear hb HCY
  go_wp2
  go_loopw [13] (fun i wr => ∃ k : Nat, k ≤ zs.length ∧ i = .int .i64 k ∧ Below w6.heap.size w6 wr) (fun i _ => zs.length - (intOf i).toNat)
  case atStart => exact ⟨0, Nat.zero_le _, rfl, Below.refl _ _⟩
  case round =>
    obtain ⟨k, hk, rfl, hbel⟩ := hrel
    by_cases hlt : k < zs.length
    · have HVr := HV.out.below hbel
      have cz := ring_cell HVr HO.out hlt
      have cX := ints_cell (HVX.out.below hbel) hlt
      have cY := ints_cell (HVY.out.below hbel) hlt
      rw [HOX.out.nx_eq (by rw [HLX.out]; exact hlt)] at cX
      rw [HOY.out.nx_eq (by rw [HLY.out]; exact hlt)] at cY
      have lz := hide (li_cell cz (World.block_lt_of_cell? _ _ cz))
      have lX := hide (li_cell cX (World.block_lt_of_cell? _ _ cX))
      have lY := hide (li_cell cY (World.block_lt_of_cell? _ _ cY))
      have g1 : (0 : Int) ≤ (k : Int) := by omega
      have g2 : (k : Int) < (zs.length : Int) := by omega
      have HB := hide hbel
      cases hA : inB zs aN k with
      | true =>
        have K1 := hide (li_of (w0 := wr) fun u hu => inRing_is _ zs aN k u true hA (HVr.below hu) hN HO.out hka)
        clear HVr cz cX cY hbel hA lz lX lY
        go_wp2
        refine wp_region_li wr (by kernel_rfl) (by kernel_rfl) (Below.refl _ _) ?_
        repeat (go_big_quiet_step ((go_at_call 23; exact K1.out _)))
        refine wpQuiet_nil ?_
        rintro _ ⟨u, rfl⟩
        go_wp2
        go_roundw
        case rel => exact ⟨k + 1, by omega, by go_num, HB.out.trans (u.bel.mono HB.out.size)⟩
        case measure => simp [intOf]; omega
      | false =>
        have K1 := hide (li_of (w0 := wr) fun u hu => inRing_is _ zs aN k u false hA (HVr.below hu) hN HO.out hka)
        have eY := HYi.out k hlt hA
        rw [eY] at lY
        cases hBb : inB zs bN k with
        | true =>
          have K2 := hide (li_of (w0 := wr) fun u hu => inRing_is _ zs bN k u true hBb (HVr.below hu) hN HO.out hkb)
          have lz' := lz.out
          have lY' := lY.out
          clear HVr cz cX cY hbel hA lX eY hBb
          go_wp2
          refine wp_region_li wr (by kernel_rfl) (by kernel_rfl) (Below.refl _ _) ?_
          repeat (go_big_quiet_step (first | (go_at_call 23; with_reducible exact K1.out _) | (go_at_call 23; with_reducible exact K2.out _)))
          refine wpQuiet_nil ?_
          rintro _ ⟨u, rfl⟩
          go_wp2
          go_roundw
          case rel => exact ⟨k + 1, by omega, by go_num, HB.out.trans (u.bel.mono HB.out.size)⟩
          case measure => simp [intOf]; omega
        | false =>
          have K2 := hide (li_of (w0 := wr) fun u hu => inRing_is _ zs bN k u false hBb (HVr.below hu) hN HO.out hkb)
          have eX := HXi.out k hlt hA hBb
          rw [eX] at lX
          have lz' := lz.out
          have lY' := lY.out
          have lX' := lX.out
          have hxx : ((nx zs k : Int) != (nx zs k : Int)) = false := by simp
          clear HVr cz cX cY hbel hA eY hBb eX
          go_wp2
          refine wp_region_li wr (by kernel_rfl) (by kernel_rfl) (Below.refl _ _) ?_
          repeat (go_big_quiet_step (first | (go_at_call 23; with_reducible exact K1.out _) | (go_at_call 23; with_reducible exact K2.out _)))
          refine wpQuiet_nil ?_
          rintro _ ⟨u, rfl⟩
          go_wp2
          go_roundw
          case rel => exact ⟨k + 1, by omega, by go_num, HB.out.trans (u.bel.mono HB.out.size)⟩
          case measure => simp [intOf]; omega
    · go_wp2
      go_ret
      exact ⟨rfl, BT.out.trans (hbel.mono BT.out.size)⟩

end Go.Proofs.Ytclgdlpnjdogbaa
