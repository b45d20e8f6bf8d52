/-
  Laws on Next and Prev: FnRingNextPrev, FnRingNext.
-/
import Derived.Test.YtlmdbohneiabkaaImpl
import Derived.Test.YtlmdbohneiabkaaLI
namespace Go.Proofs.Ytlmdbohneiabkaa
open Go.RowKit

theorem elem_of {zs : List Int} {a : Int} (h : elemB zs a = true) {k : Nat} (hk : k < zs.length) : elemB zs (k : Int) = true := by
  unfold elemB at h ⊢
  simp only [Bool.and_eq_true, decide_eq_true_eq] at h ⊢
  exact ⟨h.1, by omega, by omega⟩

set_option maxHeartbeats 1000000 in
theorem fnRingNextPrev_any (v : Value) (zs : List Int) (a : Int) (w : World) (hv : Ints w v zs) (hN : zs.length * 8 ≤ 140737488351232) (_ha : (Lit.int .i64 a).wf = true) :
    Calls Try.prog 11 #[v, .int .i64 a] w fun e w' => e = .returned (.bool true) ∧ Below w.heap.size w w' := by
  have HV := hide hv
  clear _ha
  cases hE : elemB zs a with
  | false =>
    have HE := hide hE
    clear hE hv
    go_enter Try.func11, Try.ntmps11
    go_wp2_with (go_at_call 18; refine (elem_is _ zs _ _ false HE.out HV.out hN).mono ?_; rintro e w1 ⟨rfl, hb1⟩)
    go_ret
    exact ⟨rfl, hb1⟩
  | true =>
    have HE := hide hE
    obtain ⟨hok, k, rfl, hk⟩ := elem_ok hE
    obtain ⟨A, c, rfl⟩ := hv.form rfl
    obtain ⟨b, off, rfl, hb, hcell⟩ := hv.open_.2.2.2 (by omega)
    have hck : w.cell? ⟨b, off + k, none⟩ = some (.int .i64 (nx zs k : Int)) := by rw [hcell k hk, hok.nx_eq hk]
    have hnl := hok.nx_lt hk
    have hpl := hok.perm.g_lt k hk
    have hgf : pv zs (nx zs k) = k := hok.perm.gf k hk
    have hfg : nx zs (pv zs k) = k := hok.perm.fg k hk
    have HEn := hide (elem_of hE hnl)
    have HEp := hide (elem_of hE hpl)
    have HO := hide hok
    have HGF := hide hgf
    have HFG := hide hfg
    have HCK := hide hck
    obtain ⟨x, hx⟩ : ∃ x, nx zs k = x := ⟨_, rfl⟩
    obtain ⟨y, hy⟩ : ∃ y, pv zs k = y := ⟨_, rfl⟩
    have HX := hide hx
    have HY := hide hy
    rw [hx] at hnl HEn HGF HCK
    rw [hy] at hpl HEp HFG
    have hkk : ((k : Int) == (k : Int)) = true := by simp
    have hxx : ((x : Int) == (x : Int)) = true := by simp
    clear hE hok hv hcell hck hgf hfg hx hy
    go_enter Try.func11, Try.ntmps11
    go_wp2_with fail
    refine (elem_is _ zs _ _ true HE.out HV.out hN).mono ?_
    rintro e w1 ⟨rfl, hb1⟩
    go_wp2_with fail
    refine (ringNext_any _ zs k _ (HV.out.below hb1) hN HO.out hk).mono ?_
    rintro e w2 ⟨rfl, hb2⟩
    rw [HX.out]
    have B2 := hb1.trans (hb2.mono hb1.size)
    clear hb1 hb2
    go_wp2_with fail
    refine (ringPrev_any _ zs k _ (HV.out.below B2) hN HO.out hk).mono ?_
    rintro e w3 ⟨rfl, hb3⟩
    rw [HY.out]
    have B3 := B2.trans (hb3.mono B2.size)
    clear hb3 B2
    go_wp2_with fail
    refine (elem_is _ zs _ _ true HEn.out (HV.out.below B3) hN).mono ?_
    rintro e w4 ⟨rfl, hb4⟩
    have B4 := B3.trans (hb4.mono B3.size)
    clear hb4 B3
    go_wp2_with fail
    refine (elem_is _ zs _ _ true HEp.out (HV.out.below B4) hN).mono ?_
    rintro e w5 ⟨rfl, hb5⟩
    have B5 := B4.trans (hb5.mono B4.size)
    clear hb5 B4
    go_wp2_with fail
    refine (ringPrev_any _ zs x _ (HV.out.below B5) hN HO.out hnl).mono ?_
    rintro e w6 ⟨rfl, hb6⟩
    rw [HGF.out]
    have B6 := B5.trans (hb6.mono B5.size)
    clear hb6 B5
    go_wp2_with fail
    refine (ringNext_any _ zs y _ (HV.out.below B6) hN HO.out hpl).mono ?_
    rintro e w7 ⟨rfl, hb7⟩
    rw [HFG.out]
    have B7 := B6.trans (hb7.mono B6.size)
    have hc7 : w7.cell? ⟨b, off + k, none⟩ = some (.int .i64 (x : Int)) := (B7.cell (p := ⟨b, off + k, none⟩) hb).trans HCK.out
    clear hb7 B6
    go_wp2
    go_ret
    exact ⟨rfl, B7⟩

set_option maxHeartbeats 1000000 in
theorem fnRingNext_any (v : Value) (zs : List Int) (a : Int) (w : World) (hv : Ints w v zs) (hN : zs.length * 8 ≤ 140737488351232) (_ha : (Lit.int .i64 a).wf = true) :
    Calls Try.prog 7 #[v, .int .i64 a] w fun e w' => e = .returned (.bool true) ∧ Below w.heap.size w w' := by
  have HV := hide hv
  clear _ha
  cases hE : elemB zs a with
  | false =>
    have K1 := hide (li_of (w0 := w) fun u hu => elem_is v zs a u false hE (HV.out.below hu) hN)
    clear hE hv
    go_enter Try.func7, Try.ntmps7
    go_wp2
    refine wp_region_li w (by kernel_rfl) (by kernel_rfl) (Below.refl _ _) ?_
    repeat (go_big_quiet_step ((go_at_call 18; exact K1.out _)))
    refine wpQuiet_nil ?_
    rintro _ ⟨u, rfl⟩
    go_wp2
    go_ret
    exact ⟨rfl, u.bel⟩
  | true =>
    obtain ⟨hok, k, rfl, hk⟩ := elem_ok hE
    have K1 := hide (li_of (w0 := w) fun u hu => elem_is v zs k u true hE (HV.out.below hu) hN)
    have K2 := hide (li_of (w0 := w) fun u hu => ringNext_any v zs k u (HV.out.below hu) hN hok hk)
    obtain ⟨A, c, rfl⟩ := hv.form rfl
    obtain ⟨b, off, rfl, hb, hcell⟩ := hv.open_.2.2.2 (by omega)
    have hck : w.cell? ⟨b, off + k, none⟩ = some (.int .i64 (nx zs k : Int)) := by rw [hcell k hk, hok.nx_eq hk]
    have hcu := li_cell hck hb
    have heq : ((nx zs k : Int) == (nx zs k : Int)) = true := by simp
    have g1 : (0 : Int) ≤ (k : Int) := by omega
    have g2 : (k : Int) < (zs.length : Int) := by omega
    clear hE hv hok hcell hck
    go_enter Try.func7, Try.ntmps7
    go_wp2
    refine wp_region_li w (by kernel_rfl) (by kernel_rfl) (Below.refl _ _) ?_
    repeat (go_big_quiet_step (first | (go_at_call 18; exact K1.out _) | (go_at_call 19; exact K2.out _)))
    refine wpQuiet_nil ?_
    rintro _ ⟨u, rfl⟩
    go_wp2
    go_ret
    exact ⟨rfl, u.bel⟩

end Go.Proofs.Ytlmdbohneiabkaa
