/-
  The reference's functions that look at rings: Element, Steps, Cycle, Before, Moved.
-/
import Derived.Test.YtpdimdpphbobiaaSpec
namespace Go.Proofs.Ytpdimdpphbobiaa
open Go.RowKit

/-- a is an element of rings. -/
def elemB (zs : List Int) (a : Int) : Bool := ringsB zs && (decide (0 ≤ a) && decide (a < zs.length))

theorem rings_is (v : Value) (zs : List Int) (w : World) (b : Bool) (hb : ringsB zs = b) (hv : Ints w v zs) (hN : zs.length * 8 ≤ 140737488351232) :
    Calls Try.prog 12 #[v] w fun e w' => e = .returned (.bool b) ∧ Below w.heap.size w w' := by
  subst hb
  exact rings_any v zs w hv hN

set_option maxHeartbeats 400000 in
theorem elem_is (v : Value) (zs : List Int) (a : Int) (w : World) (b : Bool) (hb : elemB zs a = b) (hv : Ints w v zs) (hN : zs.length * 8 ≤ 140737488351232) :
    Calls Try.prog 16 #[v, .int .i64 a] w fun e w' => e = .returned (.bool b) ∧ Below w.heap.size w w' := by
  have HV := hide hv
  obtain ⟨A, c, rfl⟩ := hv.form rfl
  clear hv
  cases hr : ringsB zs with
  | false =>
    have hb' : b = false := by rw [← hb]; unfold elemB; rw [hr]; rfl
    subst hb'
    have HR := hide hr
    clear hr hb
    go_enter Try.func16, Try.ntmps16
    go_wp2_with (go_at_call 12; refine (rings_is _ zs _ false HR.out HV.out hN).mono ?_; rintro e w' ⟨rfl, hbel⟩)
    go_ret
    exact ⟨rfl, hbel⟩
  | true =>
    have hb' : b = (decide (0 ≤ a) && decide (a < zs.length)) := by rw [← hb]; unfold elemB; rw [hr]; rfl
    have HR := hide hr
    clear hr hb
    by_cases h0 : 0 ≤ a
    · by_cases h1 : a < zs.length
      · have : b = true := by rw [hb', decide_eq_true h0, decide_eq_true h1]; rfl
        subst this
        clear hb'
        go_enter Try.func16, Try.ntmps16
        go_wp2_with (go_at_call 12; refine (rings_is _ zs _ true HR.out HV.out hN).mono ?_; rintro e w' ⟨rfl, hbel⟩)
        go_ret
        exact ⟨rfl, hbel⟩
      · have : b = false := by rw [hb', decide_eq_true h0, decide_eq_false h1]; rfl
        subst this
        have hd : decide (a < (zs.length : Int)) = false := decide_eq_false h1
        clear hb'
        go_enter Try.func16, Try.ntmps16
        go_wp2_with (go_at_call 12; refine (rings_is _ zs _ true HR.out HV.out hN).mono ?_; rintro e w' ⟨rfl, hbel⟩)
        go_ret
        exact ⟨rfl, hbel⟩
    · have : b = false := by rw [hb', decide_eq_false h0]; rfl
      subst this
      clear hb'
      go_enter Try.func16, Try.ntmps16
      go_wp2_with (go_at_call 12; refine (rings_is _ zs _ true HR.out HV.out hN).mono ?_; rintro e w' ⟨rfl, hbel⟩)
      go_ret
      exact ⟨rfl, hbel⟩

theorem elem_ok {zs : List Int} {a : Int} (h : elemB zs a = true) : RingsOk zs ∧ ∃ k : Nat, a = k ∧ k < zs.length := by
  unfold elemB at h
  simp only [Bool.and_eq_true, decide_eq_true_eq] at h
  exact ⟨ringsOk_of h.1, a.toNat, by omega, by omega⟩

/-! ### Cycle -/

/-- The k-th element behind a. -/
def orb (zs : List Int) (a k : Nat) : Nat := RM.it (nx zs) k a
/-- The elements of the ring of a, from a on. -/
def cycI (zs : List Int) (a : Nat) : List Int := nums (orb zs a) (len zs a)
theorem cycI_len (zs : List Int) (a : Nat) : (cycI zs a).length = len zs a := nums_len _ _

set_option maxHeartbeats 1000000 in
theorem cycle_any (v : Value) (zs : List Int) (a : Nat) (w : World) (hv : Ints w v zs) (hN : zs.length * 8 ≤ 140737488351232) (hok : RingsOk zs) (ha : a < zs.length) :
    Calls Try.prog 11 #[v, .int .i64 a] w fun e w' => ∃ v', e = .returned v' ∧ Fresh w.heap.size w' v' (cycI zs a) ∧ Below w.heap.size w w' := by
  obtain ⟨A, c, rfl⟩ := hv.form rfl
  obtain ⟨i0, hi, hz0, hz1, hz2⟩ := info_parts info_int
  have hpe := hok.perm.per ha
  obtain ⟨p, hp⟩ : ∃ p, len zs a = p := ⟨_, rfl⟩
  have HL := hide hp
  unfold len at hp
  rw [hp] at hpe
  have hple := hpe.le
  have hp0 := hpe.pos
  have HP := hide hpe
  have HO := hide hok
  obtain ⟨b, off, rfl, hb, hcell⟩ := hv.open_.2.2.2 (by omega)
  have HC : Hid (∀ k, k < zs.length → w.cell? ⟨b, off + k, none⟩ = some (.int .i64 (nx zs k : Int))) := fun k hk => by rw [hcell k hk, hok.nx_eq hk]
  have hca := HC.out a ha
  have hca1 : (w.alloc (.cells #[.int .i64 (a : Int)] 2)).cell? ⟨b, off + a, none⟩ = some (.int .i64 (nx zs a : Int)) := (World.cell?_alloc_lt w _ ⟨b, off + a, none⟩ hb).trans hca
  obtain ⟨n, hn⟩ : ∃ n, zs.length = n := ⟨_, rfl⟩
  have HNN := hide hn
  rw [hn] at hN ha hple ⊢
  clear hv hp hpe hok hcell hca hn
  go_enter Try.func11, Try.ntmps11
  go_wp2
  go_loopg [5, 6] p (fun gk u kk wr => ∃ j x : Nat, gk + j = p ∧ 0 < gk ∧ x < n ∧ Hid (orb zs a (j + 1) = x) ∧ kk = .int .i64 x ∧ wr.ownsRow w.heap.size 2 1 u (j + 1) (vals (orb zs a) (j + 1)) ∧ Below w.heap.size w wr)
  case atStart =>
    refine ⟨0, nx zs a, rfl, hp0, ?_, rfl, rfl, ?_, (Below.refl _ _).alloc (Nat.le_refl _) _⟩
    · have := HO.out.nx_lt (i := a) (by rw [HNN.out]; exact ha)
      rw [HNN.out] at this
      exact this
    · exact ⟨rfl, .inr ⟨w.heap.size, 1, _, rfl, Nat.le_refl _, heap_alloc_new w _, Nat.le_refl _, by unfold maxLen; omega, rfl, rfl⟩⟩
  case round =>
    obtain ⟨j, x, hgj, hg0, hx, hjx, rfl, hown, hbel⟩ := hrel
    clear hca1
    by_cases hj : j + 1 = p
    · obtain rfl : a = x := by rw [← hjx.out, hj]; exact HP.out.back.symm
      have hne : ((a : Int) != (a : Int)) = false := by simp
      have R := hide hown
      have HJ := hide hj
      clear hj hgj hown
      go_wp2
      go_ret
      refine ⟨_, rfl, ?_, hbel⟩
      have := R.out
      rw [HJ.out] at this
      unfold cycI
      rw [HL.out]
      exact fresh_vals this
    · have hne : ((x : Int) != (a : Int)) = true := by
        have : x ≠ a := fun e => HP.out.first (j + 1) (by omega) (by omega) (hjx.out.trans e)
        simp; omega
      have hcx : wr.cell? ⟨b, off + x, none⟩ = some (.int .i64 (nx zs x : Int)) := (hbel.cell (p := ⟨b, off + x, none⟩) hb).trans (HC.out x (by rw [HNN.out]; exact hx))
      have hsz := hbel.size
      have HGJ := hide hgj
      have hgp : gk ≤ p := by omega
      have hjp : j + 1 < p := by omega
      clear hgj hj
      go_wp2_with (at_builtin; refine wpList_append_own _ rfl _ _ 22 rfl w.heap.size 2 i0 (.int .i64 0) 1 8 Try.underlying22 hi hz0 hz1 hz2 rfl (by decide) _ _ _ rfl (hown.alloc _) ⟨wr.heap.size, 0, none⟩ 1 1 [.int .i64 (x : Int)] rfl rfl (one_new _ _ _) (one_int _) ?c3 ?c4 ?c5 ?_)
      case c3 => unfold maxLen; omega
      case c4 => omega
      case c5 => simp; omega
      intro v' w1 hown' hgrow _
      have R := own_next hown hbel (Nat.le_refl _) hown' hgrow
      have hcx1 : w1.cell? ⟨b, off + x, none⟩ = some (.int .i64 (nx zs x : Int)) := (R.2.cell (p := ⟨b, off + x, none⟩) hb).trans (HC.out x (by rw [HNN.out]; exact hx))
      have RR := hide R
      clear R hown' hgrow hown hbel hcx
      go_wp2
      go_roundg (gk - 1)
      case measure => omega
      case rel =>
        refine ⟨j + 1, nx zs x, by have := HGJ.out; omega, by have := HGJ.out; omega, ?_, ?_, rfl, ?_, RR.out.2⟩
        · have := HO.out.nx_lt (i := x) (by rw [HNN.out]; exact hx)
          rw [HNN.out] at this
          exact this
        · show orb zs a (j + 1 + 1) = nx zs x
          unfold orb
          rw [RM.it_succ]
          have := hjx.out
          unfold orb at this
          rw [this]
        · rw [vals_succ, hjx.out]
          exact RR.out.1

end Go.Proofs.Ytpdimdpphbobiaa
