/-
  The reference's Linked and Unlinked.
-/
import Derived.Test.YtpdimdpphbobiaaSpecL3
namespace Go.Proofs.Ytpdimdpphbobiaa
open Go.RowKit

theorem linked_any (v : Value) (zs : List Int) (a b : Nat) (w : World) (hv : Ints w v zs) (hN : zs.length * 8 ≤ 140737488351232) (hok : RingsOk zs) (ha : a < zs.length) (hb : b < zs.length) :
    Calls Try.prog 25 #[v, .int .i64 a, .int .i64 b] w fun e w' => ∃ v', e = .returned (.tuple #[v', .int .i64 (nx zs a)]) ∧ Fresh w.heap.size w' v' (linkI zs a b) ∧ Below w.heap.size w w' := by
  cases h : inB zs a b with
  | true => exact linked_one v zs a b w hv hN hok ha hb h
  | false => exact linked_two v zs a b w hv hN hok ha hb h

set_option maxHeartbeats 1000000 in
theorem unlinked_any (v : Value) (zs : List Int) (a n : Nat) (w : World) (hv : Ints w v zs) (hN : zs.length * 8 ≤ 140737488351232) (hok : RingsOk zs) (ha : a < zs.length) (hn0 : 0 < n) (hn : n < len zs a) :
    Calls Try.prog 26 #[v, .int .i64 a, .int .i64 n] w fun e w' => ∃ v', e = .returned (.tuple #[v', .int .i64 (nx zs a)]) ∧ Fresh w.heap.size w' v' (linkI zs a (orb zs a (n + 1))) ∧ Below w.heap.size w w' := by
  have HV := hide hv
  have HO := hide hok
  have hl := hok.len_le ha
  have hp := hok.len_pos ha
  have hqb : pv zs (orb zs a (n + 1)) = orb zs a n := hok.perm.g_it n ha
  have HQB := hide hqb
  obtain ⟨j, hj⟩ : ∃ j, (n + 1) % len zs a = j := ⟨_, rfl⟩
  have hjp : j < len zs a := by rw [← hj]; exact Nat.mod_lt _ hp
  have hoj : orb zs a j = orb zs a (n + 1) := by rw [← hj]; exact RM.it_mod (hok.perm.per ha).back (n + 1)
  have hql := orb_lt hok ha n
  clear hv hok hqb
  go_enter Try.func26, Try.ntmps26
  go_wp2_with fail
  refine (cycle_any _ zs a _ HV.out hN HO.out ha).mono ?_
  rintro e w1 ⟨v1, rfl, hf1, hb1⟩
  obtain ⟨A1, c1, rfl⟩ := hf1.form (cycI_len zs a)
  obtain ⟨b1, o1, rfl, hlb1, hcell1⟩ := cyc_cell hf1.ints hp
  go_wp2_with fail
  refine (own_any _ zs _ (HV.out.below hb1) hN).mono ?_
  rintro e w2 ⟨v2, rfl, hf2, hb2⟩
  have hf2' : Fresh w1.heap.size w2 v2 (nums (nx zs) zs.length) := by rw [zs_nums HO.out]; exact hf2
  obtain ⟨g, cap, rfl, ho2⟩ := outRow_of hf2' (by omega)
  have B2 := hb1.trans (hb2.mono hb1.size)
  have hg := ho2.lt
  have hgne : b1 ≠ g := by omega
  have hw1 := hb1.size
  have hgB : w.heap.size ≤ g := by omega
  have kj : w2.cell? ⟨b1, o1 + j, none⟩ = some (.int .i64 (orb zs a j : Int)) := (hb2.cell (p := ⟨b1, o1 + j, none⟩) hlb1).trans (hcell1 j hjp)
  have kn : w2.cell? ⟨b1, o1 + n, none⟩ = some (.int .i64 (orb zs a n : Int)) := (hb2.cell (p := ⟨b1, o1 + n, none⟩) hlb1).trans (hcell1 n hn)
  have k1 : w2.cell? ⟨b1, o1 + 1, none⟩ = some (.int .i64 (nx zs a : Int)) := (hb2.cell (p := ⟨b1, o1 + 1, none⟩) hlb1).trans (hcell1 1 (by omega))
  rw [hoj] at kj
  have ca := ho2.cell ha
  have fa := ho2.frozen a
  obtain ⟨b, hbv⟩ : ∃ b, orb zs a (n + 1) = b := ⟨_, rfl⟩
  obtain ⟨q, hqv⟩ : ∃ q, orb zs a n = q := ⟨_, rfl⟩
  obtain ⟨y, hyv⟩ : ∃ y, nx zs a = y := ⟨_, rfl⟩
  obtain ⟨p, hpv⟩ : ∃ p, len zs a = p := ⟨_, rfl⟩
  have HBV := hide hbv
  have HQV := hide hqv
  have HYV := hide hyv
  rw [hbv] at kj
  rw [hqv] at kn hql
  rw [hyv] at k1
  have R0 := ho2.set a b
  have cq := R0.cell hql
  have fq := R0.frozen q
  have BW := B2.setCell (p := ⟨g, a, none⟩) hgB (.int .i64 (b : Int))
  have hj2 := hj
  rw [hpv] at hn hl hp hjp hj ⊢
  have i2 : ((n : Int) + 1) % (p : Int) = (j : Int) := by rw [show ((n : Int) + 1) = ((n + 1 : Nat) : Int) by omega, ← Int.natCast_emod, hj]
  have m1 : (w2.setCell ⟨g, a, none⟩ (.int .i64 (b : Int))).cell? ⟨b1, o1 + n, none⟩ = some (.int .i64 (q : Int)) := (cell_far _ _ ⟨b1, o1 + n, none⟩ _ hgne).trans kn
  have m2 : (w2.setCell ⟨g, a, none⟩ (.int .i64 (b : Int))).cell? ⟨b1, o1 + 1, none⟩ = some (.int .i64 (y : Int)) := (cell_far _ _ ⟨b1, o1 + 1, none⟩ _ hgne).trans k1
  have hpz : ((p : Int) == 0) = false := by simp; omega
  have HR0 := hide R0
  have HBW := hide BW
  clear R0 BW hf1 hf2 hf2' hcell1 ho2 hb1 hb2 B2 hbv hqv hyv hpv hj hj2 hoj hg
  go_wp2
  generalize w2.setCell ⟨g, a, none⟩ (.int .i64 (b : Int)) = W at *
  have n1 : (W.setCell ⟨g, q, none⟩ (.int .i64 (y : Int))).cell? ⟨b1, o1 + n, none⟩ = some (.int .i64 (q : Int)) := (cell_far _ _ ⟨b1, o1 + n, none⟩ _ hgne).trans m1
  have n2 : (W.setCell ⟨g, q, none⟩ (.int .i64 (y : Int))).cell? ⟨b1, o1 + 1, none⟩ = some (.int .i64 (y : Int)) := (cell_far _ _ ⟨b1, o1 + 1, none⟩ _ hgne).trans m2
  have R2 := hide (HR0.out.set q y)
  have BW2 := hide (HBW.out.setCell (p := ⟨g, q, none⟩) hgB (.int .i64 (y : Int)))
  have q1 : (0 : Int) ≤ (n : Int) := by omega
  have q2 : (n : Int) < (p : Int) := by omega
  have q3 : (1 : Int) < (p : Int) := by omega
  have q5 : (0 : Int) ≤ (q : Int) := by omega
  have q6 : (q : Int) < (zs.length : Int) := by omega
  have q7 : 1 < p := by omega
  clear i2
  go_region_held3 (fun w' => w'.cell? ⟨b1, o1 + n, none⟩ = some (.int .i64 (q : Int)) ∧ w'.cell? ⟨b1, o1 + 1, none⟩ = some (.int .i64 (y : Int))) (first | exact ⟨m1, m2⟩ | exact ⟨n1, n2⟩) (fail)
  all_goals
    go_wp2
    go_quiet (fail)
    go_wp2
    go_ret2
    refine ⟨_, by rw [HYV.out]; rfl, Fresh.draws ?_ nq, below_draws BW2.out nq⟩
    rw [HBV.out]
    refine Fresh.mono (B := w1.heap.size) (R2.out.congr (G := RM.lkF (nx zs) (pv zs) a b) fun i _ => ?_).fresh hw1
    unfold RM.lkF
    have := HQB.out
    rw [HBV.out, HQV.out] at this
    rw [this, HYV.out]

end Go.Proofs.Ytpdimdpphbobiaa
