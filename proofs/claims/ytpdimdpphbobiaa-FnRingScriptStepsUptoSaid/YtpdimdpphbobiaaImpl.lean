/-
  The thin package's functions that go through rings: RingNext, RingPrev, RingLen, RingMove.
-/
import Derived.Test.YtpdimdpphbobiaaBuild
namespace Go.Proofs.Ytpdimdpphbobiaa
open Go.RowKit

set_option maxHeartbeats 400000 in
theorem ringNext_any (v : Value) (zs : List Int) (a : Nat) (w : World) (hv : Ints w v zs) (hN : zs.length * 8 ≤ 140737488351232) (hok : RingsOk zs) (ha : a < zs.length) :
    Calls Try.prog 20 #[v, .int .i64 a] w fun e w' => e = .returned (.int .i64 (nx zs a)) ∧ Below w.heap.size w w' := by
  have HV := hide hv
  have HO := hide hok
  clear hv hok
  go_enter Try.func20, Try.ntmps20
  go_wp2_with fail
  refine (build_any _ zs _ HV.out hN HO.out).mono ?_
  rintro e w1 ⟨rfl, ad, hr, hgt, hrow, hbel⟩
  have hca := hrow.cell ha
  have c0 := hr.c0 ha
  have c2 := hr.c2 (HO.out.nx_lt ha)
  unfold numV at c2
  clear hr hgt hrow
  go_wp2_with (first
    | (go_at_call 29; refine (next_set _ _ _ c0).mono ?_; rintro e w' ⟨rfl, rfl⟩)
    | (go_at_call 28; refine (number_set _ _ _ c2).mono ?_; rintro e w' ⟨rfl, rfl⟩))
  go_ret
  exact ⟨rfl, hbel⟩

set_option maxHeartbeats 400000 in
theorem ringPrev_any (v : Value) (zs : List Int) (a : Nat) (w : World) (hv : Ints w v zs) (hN : zs.length * 8 ≤ 140737488351232) (hok : RingsOk zs) (ha : a < zs.length) :
    Calls Try.prog 19 #[v, .int .i64 a] w fun e w' => e = .returned (.int .i64 (pv zs a)) ∧ Below w.heap.size w w' := by
  have HV := hide hv
  have HO := hide hok
  clear hv hok
  go_enter Try.func19, Try.ntmps19
  go_wp2_with fail
  refine (build_any _ zs _ HV.out hN HO.out).mono ?_
  rintro e w1 ⟨rfl, ad, hr, hgt, hrow, hbel⟩
  have hca := hrow.cell ha
  have c0 := hr.c0 ha
  have c1 := hr.c1 ha
  have c2 := hr.c2 (HO.out.perm.g_lt a ha)
  unfold numV at c2
  clear hr hgt hrow
  go_wp2_with (first
    | (go_at_call 30; refine (prev_set _ _ _ _ c0 c1).mono ?_; rintro e w' ⟨rfl, rfl⟩)
    | (go_at_call 28; refine (number_set _ _ _ c2).mono ?_; rintro e w' ⟨rfl, rfl⟩))
  go_ret
  exact ⟨rfl, hbel⟩

set_option maxHeartbeats 400000 in
theorem ringLen_any (v : Value) (zs : List Int) (a : Nat) (w : World) (hv : Ints w v zs) (hN : zs.length * 8 ≤ 140737488351232) (hok : RingsOk zs) (ha : a < zs.length) :
    Calls Try.prog 18 #[v, .int .i64 a] w fun e w' => e = .returned (.int .i64 (len zs a)) ∧ Below w.heap.size w w' := by
  have HV := hide hv
  have HO := hide hok
  clear hv hok
  go_enter Try.func18, Try.ntmps18
  go_wp2_with fail
  refine (build_any _ zs _ HV.out hN HO.out).mono ?_
  rintro e w1 ⟨rfl, ad, hr, hgt, hrow, hbel⟩
  have hca := hrow.cell ha
  have HR := hide hr
  clear hr hgt hrow
  go_wp2_with (go_at_call 31; refine (len_ring _ zs.length ad (nx zs) (pv zs) numV a HR.out HO.out.perm ha (by omega)).mono ?_; rintro e w' ⟨rfl, rfl⟩)
  go_ret
  exact ⟨rfl, hbel⟩

/-! ### Move -/

theorem mv_fwd {zs : List Int} (hok : RingsOk zs) {a : Nat} (ha : a < zs.length) (k : Nat) : RM.it (nx zs) k a = mv zs a k := by
  unfold mv orb
  rw [← Int.natCast_emod, Int.toNat_natCast]
  exact (RM.it_mod (hok.perm.per ha).back k).symm

theorem mv_back {zs : List Int} (hok : RingsOk zs) {a : Nat} (ha : a < zs.length) (k : Nat) : RM.it (pv zs) k a = mv zs a (-(k : Int)) := by
  have hP := hok.perm
  have hper := hP.per ha
  have p0 := hper.pos
  refine hP.it_inj k (hP.symm.it_lt k ha) (orb_lt hok ha _) ?_
  rw [hP.it_back ha k]
  unfold mv orb
  rw [← RM.it_add, ← RM.it_mod hper.back]
  show a = RM.it (nx zs) ((k + ((-(k : Int)) % (RM.per (nx zs) zs.length a : Int)).toNat) % RM.per (nx zs) zs.length a) a
  generalize RM.per (nx zs) zs.length a = p at p0
  have e : (k + ((-(k : Int)) % (p : Int)).toNat) % p = 0 := by
    have h0 := Int.emod_nonneg (-(k : Int)) (show (p : Int) ≠ 0 by omega)
    have h1 := Int.mul_ediv_add_emod (-(k : Int)) (p : Int)
    have h2 : ((k + ((-(k : Int)) % (p : Int)).toNat : Nat) : Int) = (p : Int) * (-((-(k : Int)) / (p : Int))) := by
      rw [Int.mul_neg]
      omega
    have h3 : (((k + ((-(k : Int)) % (p : Int)).toNat) % p : Nat) : Int) = 0 := by
      rw [Int.natCast_emod, h2]
      exact Int.mul_emod_right _ _
    omega
  rw [e]
  rfl

theorem move_any (w : World) (zs : List Int) (ad : Nat → Nat) (V : Nat → Value) (a : Nat) (n : Int) (h : RingV w zs.length ad (nx zs) (pv zs) V) (hok : RingsOk zs) (ha : a < zs.length) (hn : -4611686018427387904 ≤ n ∧ n ≤ 4611686018427387904) :
    Calls Try.prog 32 #[.pointer (some ⟨ad a, 0, none⟩), .int .i64 n] w fun e w' => e = .returned (.pointer (some ⟨ad (mv zs a n), 0, none⟩)) ∧ w = w' := by
  rcases Int.lt_or_le n 0 with h0 | h0
  · obtain ⟨k, rfl⟩ : ∃ k : Nat, n = -(k : Int) := ⟨(-n).toNat, by omega⟩
    rw [← mv_back hok ha k]
    exact move_back w zs.length ad (nx zs) (pv zs) V a k h hok.perm ha (by omega) (by omega)
  · obtain ⟨k, rfl⟩ : ∃ k : Nat, n = k := ⟨n.toNat, by omega⟩
    rw [← mv_fwd hok ha k]
    exact move_fwd w zs.length ad (nx zs) (pv zs) V a k h hok.perm ha (by omega)


end Go.Proofs.Ytpdimdpphbobiaa
