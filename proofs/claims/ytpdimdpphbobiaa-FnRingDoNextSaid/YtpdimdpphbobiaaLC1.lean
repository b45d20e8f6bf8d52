/-
  FnRingDoNext.
-/
import Derived.Test.YtpdimdpphbobiaaLMath
import Derived.Test.YtpdimdpphbobiaaLawsD
import Derived.Test.YtpdimdpphbobiaaLI
namespace Go.Proofs.Ytpdimdpphbobiaa
open Go.RowKit

theorem orb_pv {zs : List Int} {a : Nat} (hok : RingsOk zs) (ha : a < zs.length) : orb zs a (len zs a - 1) = pv zs a := by
  have hp := hok.len_pos ha
  have hb := (hok.perm.per ha).back
  have h := hok.perm.gf (orb zs a (len zs a - 1)) (orb_lt hok ha _)
  have e : nx zs (orb zs a (len zs a - 1)) = a := by
    have e1 : orb zs a (len zs a - 1 + 1) = nx zs (orb zs a (len zs a - 1)) := rfl
    rw [← e1, Nat.sub_add_cancel hp]
    exact hb
  rw [e] at h
  exact h.symm

theorem orb_ne {zs : List Int} {a : Nat} (hok : RingsOk zs) (ha : a < zs.length) {k : Nat} (h0 : 0 < k) (h1 : k < len zs a) : orb zs a k ≠ a :=
  (hok.perm.per ha).first k h0 h1

set_option maxHeartbeats 2000000 in
theorem fnRingDoNext_any (v : Value) (zs : List Int) (a : Int) (w : World) (hv : Ints w v zs) (hN : zs.length * 8 ≤ 140737488351232) (_ha : (Lit.int .i64 a).wf = true) :
    Calls Try.prog 6 #[v, .int .i64 a] w fun e w' => e = .returned (.bool true) ∧ Below w.heap.size w w' := by
  have HV := hide hv
  clear _ha
  cases hE : elemB zs a with
  | false =>
    have HE := hide hE
    clear hE hv
    go_enter Try.func6, Try.ntmps6
    go_wp2_with (go_at_call 16; refine (elem_is _ zs _ _ false HE.out HV.out hN).mono ?_; rintro e w1 ⟨rfl, hb1⟩)
    go_ret
    exact ⟨rfl, hb1⟩
  | true =>
    have HE := hide hE
    obtain ⟨hok, aN, rfl, hka⟩ := elem_ok hE
    have hp0 := hok.len_pos hka
    have hpl := hok.len_le hka
    have hpv := orb_pv hok hka
    have HO := hide hok
    have hne : Hid (∀ k, 0 < k → k < len zs aN → orb zs aN k ≠ aN) := fun k h0 h1 => orb_ne hok hka h0 h1
    have hlt : Hid (∀ k, orb zs aN k < zs.length) := fun k => orb_lt hok hka k
    have haa : ((aN : Int) != (aN : Int)) = false := by simp
    obtain ⟨p, hp⟩ : ∃ p, len zs aN = p := ⟨_, rfl⟩
    obtain ⟨q, hq⟩ : ∃ q, pv zs aN = q := ⟨_, rfl⟩
    have HP := hide hp
    have HQ := hide hq
    rw [hp] at hp0 hpl hpv hne
    rw [hq] at hpv
    have HPV := hide hpv
    have hqq : ((q : Int) != (q : Int)) = false := by simp
    have hpp : ((p : Int) != (p : Int)) = false := by simp
    have hpz : ((p : Int) == 0) = false := by simp; omega
    have hw1 : IntKind.i64.wrap ((p : Int) - 1) = ((p - 1 : Nat) : Int) := by rw [IntWalk.i64_in _ (by omega)]; omega
    clear hE hok hv hp hq hpv
    have BT : Hid (Below w.heap.size w w) := Below.refl _ _
    go_enter Try.func6, Try.ntmps6
    go_wp2_with fail
    refine (elem_is _ zs _ _ true HE.out HV.out hN).mono ?_
    rintro e w1 ⟨rfl, hb⟩
    replace HV := hide (HV.out.below hb)
    replace BT := hide (BT.out.trans (hb.mono BT.out.size))
    clear hb
    go_wp2_with fail
    refine (ringDo_any _ zs aN _ HV.out hN HO.out hka).mono ?_
    rintro e w2 ⟨vL, rfl, hf, hb⟩
    replace HV := hide (HV.out.below hb)
    replace BT := hide (BT.out.trans (hb.mono BT.out.size))
    clear hb
    have HL := hide hf.ints
    obtain ⟨AL, cL, rfl⟩ := hf.form ((cycI_len zs aN).trans HP.out)
    clear hf
    obtain ⟨bl, ol, hal, hlb, hcl⟩ := cyc_cell HL.out hp0
    subst hal
    have c0 := hcl 0 hp0
    have cl := hcl (p - 1) (by omega)
    rw [show orb zs aN 0 = aN from rfl, Nat.add_zero] at c0
    rw [HPV.out] at cl
    have HCL := hide hcl
    clear hcl
    have lc0 := li_cell c0 hlb
    have lcl := li_cell cl hlb
    have K1 := hide (li_of (w0 := w2) fun u hu => ringLen_any _ zs aN u (HV.out.below hu) hN HO.out hka)
    have K2 := hide (li_of (w0 := w2) fun u hu => ringPrev_any _ zs aN u (HV.out.below hu) hN HO.out hka)
    rw [HP.out] at K1
    rw [HQ.out] at K2
    clear c0 cl
    go_wp2_with fail
    refine wp_region_li w2 (by kernel_rfl) (by kernel_rfl) (Below.refl _ _) ?_
    repeat (go_big_quiet_step (first | (go_at_call 18; exact K1.out _) | (go_at_call 19; exact K2.out _)))
    refine wpQuiet_nil ?_
    rintro _ ⟨u, rfl⟩
    have hb := u.bel
    obtain ⟨w3, hw3⟩ : ∃ w3, u.w = w3 := ⟨_, rfl⟩
    rw [hw3] at hb ⊢
    have HCL3 : Hid (bl < w3.heap.size ∧ ∀ k, k < p → w3.cell? ⟨bl, ol + k, none⟩ = some (.int .i64 (orb zs aN k : Int))) := ⟨Nat.lt_of_lt_of_le hlb hb.size, fun k hk => (hb.cell hlb).trans (HCL.out k hk)⟩
    replace HV := hide (HV.out.below hb)
    replace BT := hide (BT.out.trans (hb.mono BT.out.size))
    clear hb HCL HL K1 K2 lc0 lcl hlb hw3 u
    go_wp2
    go_loopw [6] (fun i wr => ∃ k : Nat, 0 < k ∧ k ≤ p ∧ i = .int .i64 k ∧ Below w3.heap.size w3 wr) (fun i _ => p - (intOf i).toNat)
    case atStart => exact ⟨1, by omega, by omega, rfl, Below.refl _ _⟩
    case round =>
      obtain ⟨k, hk0, hk, rfl, hbel⟩ := hrel
      by_cases hlt2 : k < p
      · have HVr := HV.out.below hbel
        have hbr : bl < wr.heap.size := Nat.lt_of_lt_of_le HCL3.out.1 hbel.size
        have d1 : wr.cell? ⟨bl, ol + k, none⟩ = some (.int .i64 (orb zs aN k : Int)) := (hbel.cell HCL3.out.1).trans (HCL3.out.2 k hlt2)
        have d2 : wr.cell? ⟨bl, ol + (k - 1), none⟩ = some (.int .i64 (orb zs aN (k - 1) : Int)) := (hbel.cell HCL3.out.1).trans (HCL3.out.2 (k - 1) (by omega))
        have hx1 : orb zs aN k = nx zs (orb zs aN (k - 1)) := by
          have e1 : orb zs aN (k - 1 + 1) = nx zs (orb zs aN (k - 1)) := rfl
          rw [← e1, Nat.sub_add_cancel hk0]
        have hx2 := hne.out k hk0 hlt2
        have hx3 := hlt.out (k - 1)
        obtain ⟨x, hx⟩ : ∃ x, orb zs aN k = x := ⟨_, rfl⟩
        obtain ⟨y, hy⟩ : ∃ y, orb zs aN (k - 1) = y := ⟨_, rfl⟩
        rw [hx] at d1 hx1 hx2
        rw [hy] at d2 hx1 hx3
        have K1 := hide (li_of (w0 := wr) fun u hu => ringNext_any _ zs y u (HVr.below hu) hN HO.out hx3)
        rw [← hx1] at K1
        have l1 := li_cell d1 hbr
        have l2 := li_cell d2 hbr
        have hxx : ((x : Int) != (x : Int)) = false := by simp
        have hxa : ((x : Int) == (aN : Int)) = false := by simp; omega
        have g1 : (0 : Int) ≤ (k : Int) := by omega
        have g2 : (k : Int) < (p : Int) := by omega
        have hw2 : IntKind.i64.wrap ((k : Int) - 1) = ((k - 1 : Nat) : Int) := by rw [IntWalk.i64_in _ (by omega)]; omega
        have g3 : (0 : Int) ≤ ((k - 1 : Nat) : Int) := by omega
        have g4 : ((k - 1 : Nat) : Int) < (p : Int) := by omega
        have HB := hide hbel
        clear HVr d1 d2 hx hy hx1 hbel
        go_wp2
        refine wp_region_li wr (by kernel_rfl) (by kernel_rfl) (Below.refl _ _) ?_
        repeat (go_big_quiet_step ((go_at_call 20; exact K1.out _)))
        refine wpQuiet_nil ?_
        rintro _ ⟨u, rfl⟩
        go_wp2
        go_roundw
        case rel => exact ⟨k + 1, by omega, by omega, by go_num, HB.out.trans (u.bel.mono HB.out.size)⟩
        case measure => simp [intOf]; omega
      · go_wp2
        go_ret
        exact ⟨rfl, BT.out.trans (hbel.mono BT.out.size)⟩

end Go.Proofs.Ytpdimdpphbobiaa
