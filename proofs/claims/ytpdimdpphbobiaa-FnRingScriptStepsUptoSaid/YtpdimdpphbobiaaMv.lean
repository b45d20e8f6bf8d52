/-
  Moving: two moves are one. No program in sight.
-/
import Derived.Test.YtpdimdpphbobiaaImpl
namespace Go.Proofs.Ytpdimdpphbobiaa

theorem mv_of_mod {zs : List Int} (hok : RingsOk zs) {a : Nat} (ha : a < zs.length) (j : Nat) (x : Int) (h : (j : Int) % (len zs a : Int) = x % (len zs a : Int)) : orb zs a j = mv zs a x := by
  unfold mv
  rw [← h, ← Int.natCast_emod, Int.toNat_natCast]
  exact (RM.it_mod (hok.perm.per ha).back j).symm

theorem mv_lt {zs : List Int} (hok : RingsOk zs) {a : Nat} (ha : a < zs.length) (x : Int) : mv zs a x < zs.length := orb_lt hok ha _

theorem len_mv {zs : List Int} (hok : RingsOk zs) {a : Nat} (ha : a < zs.length) (x : Int) : len zs (mv zs a x) = len zs a := hok.perm.per_it ha _

theorem mv_add {zs : List Int} (hok : RingsOk zs) {a : Nat} (ha : a < zs.length) (n m : Int) : mv zs (mv zs a n) m = mv zs a (n + m) := by
  have hp := hok.len_pos ha
  have e : mv zs (mv zs a n) m = orb zs a ((m % (len zs a : Int)).toNat + (n % (len zs a : Int)).toNat) := by
    have h1 : mv zs (mv zs a n) m = orb zs (mv zs a n) (m % (len zs (mv zs a n) : Int)).toNat := rfl
    rw [h1, len_mv hok ha]
    unfold mv orb
    rw [RM.it_add]
  rw [e]
  apply mv_of_mod hok ha
  have h1 := Int.emod_nonneg m (show (len zs a : Int) ≠ 0 by omega)
  have h2 := Int.emod_nonneg n (show (len zs a : Int) ≠ 0 by omega)
  rw [Int.natCast_add, Int.toNat_of_nonneg h1, Int.toNat_of_nonneg h2, ← Int.add_emod, Int.add_comm]

theorem mv_one {zs : List Int} (hok : RingsOk zs) {a : Nat} (ha : a < zs.length) : mv zs a 1 = nx zs a := (mv_of_mod hok ha 1 1 rfl).symm
theorem mv_neg_one {zs : List Int} (hok : RingsOk zs) {a : Nat} (ha : a < zs.length) : mv zs a (-1) = pv zs a := (mv_back hok ha 1).symm
theorem mv_zero {zs : List Int} (hok : RingsOk zs) {a : Nat} (ha : a < zs.length) : mv zs a 0 = a := (mv_of_mod hok ha 0 0 rfl).symm
theorem mv_len {zs : List Int} (hok : RingsOk zs) {a : Nat} (ha : a < zs.length) : mv zs a (len zs a : Int) = a := by
  rw [← mv_of_mod hok ha 0 (len zs a : Int) (by simp)]; rfl
theorem mv_undo {zs : List Int} (hok : RingsOk zs) {a : Nat} (ha : a < zs.length) (n : Int) : mv zs (mv zs a n) (-n) = a := by
  rw [mv_add hok ha, show n + -n = 0 by omega, mv_zero hok ha]

end Go.Proofs.Ytpdimdpphbobiaa
