/-
  Small facts for the laws' walks.
-/
import Derived.Test.YtpdimdpphbobiaaImplL2
import Derived.Test.YtpdimdpphbobiaaSpecL4
import Derived.Test.YtpdimdpphbobiaaSame
import Derived.Test.YtpdimdpphbobiaaLI
namespace Go.Proofs.Ytpdimdpphbobiaa
open Go.RowKit

theorem ints_cell {w : World} {b off n c k : Nat} {xs : List Int} (h : Ints w (.slice (some ⟨b, off, none⟩) n c) xs) (hk : k < n) : w.cell? ⟨b, off + k, none⟩ = some (.int .i64 (xs.getD k 0)) := by
  obtain ⟨_, _, _, hc⟩ := h.open_
  obtain ⟨b', off', e, _, hcell⟩ := hc (by omega)
  injection e with e
  injection e with e1 e2
  subst e1 e2
  exact hcell k hk
theorem ring_cell {w : World} {b off c k : Nat} {zs : List Int} (h : Ints w (.slice (some ⟨b, off, none⟩) zs.length c) zs) (hok : RingsOk zs) (hk : k < zs.length) : w.cell? ⟨b, off + k, none⟩ = some (.int .i64 (nx zs k : Int)) := by
  rw [ints_cell h hk, hok.nx_eq hk]
/-- A slice that has an element has an address. -/
theorem ints_addr {w : World} {v : Value} {zs : List Int} (h : Ints w v zs) (hn : 0 < zs.length) : ∃ b off c, v = .slice (some ⟨b, off, none⟩) zs.length c := by
  obtain ⟨A, c, rfl⟩ := h.form rfl
  obtain ⟨b, off, rfl, _⟩ := h.open_.2.2.2 hn
  exact ⟨b, off, c, rfl⟩

theorem elem_at {zs : List Int} (h : ringsB zs = true) {k : Nat} (hk : k < zs.length) : elemB zs (k : Int) = true := by
  unfold elemB
  simp only [Bool.and_eq_true, decide_eq_true_eq]
  exact ⟨h, by omega, by omega⟩
theorem ringsB_of {zs : List Int} (h : RingsOk zs) : ringsB zs = true := by
  refine ringsB_true fun i hi => ?_
  unfold goodAt
  rw [decide_eq_true (h.lo i hi), decide_eq_true (h.hi i hi)]
  have : (zs.take i).contains (zs.getD i 0) = false := by
    cases hc : (zs.take i).contains (zs.getD i 0) with
    | false => rfl
    | true =>
      rw [List.contains_iff_mem, List.mem_iff_getElem?] at hc
      obtain ⟨j, hj⟩ := hc
      rw [List.getElem?_take] at hj
      split at hj
      · rename_i hji
        have hjl : j < zs.length := by omega
        have e : zs.getD j 0 = zs.getD i 0 := by simp [List.getD, hj]
        have := h.inj j i hjl hi e
        omega
      · cases hj
  rw [this]
  rfl
theorem elem_ok' {zs : List Int} (h : RingsOk zs) {k : Nat} (hk : k < zs.length) : elemB zs (k : Int) = true := elem_at (ringsB_of h) hk

/-- Moving by n + 1 where the length divides n: what follows. -/
theorem mv_next {zs : List Int} (hok : RingsOk zs) {a : Nat} (ha : a < zs.length) {n : Int} (h : n % (len zs a : Int) = 0) : mv zs a (n + 1) = nx zs a := by
  rw [← mv_one hok ha]
  unfold mv
  rw [Int.add_emod, h, Int.zero_add, Int.emod_emod]
theorem mv_rem {zs : List Int} (hok : RingsOk zs) {a : Nat} (ha : a < zs.length) {n : Int} {k : Nat} (h : n % (len zs a : Int) = k) : mv zs a (n + 1) = orb zs a (k + 1) := by
  refine (mv_of_mod hok ha (k + 1) (n + 1) ?_).symm
  rw [Int.add_emod n, h, Int.natCast_add, Int.add_emod (k : Int)]
  rw [← h, Int.emod_emod]
  rfl

end Go.Proofs.Ytpdimdpphbobiaa
