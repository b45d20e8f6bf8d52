/-
  The reference's functions that look at rings: Before, Steps, Moved.
-/
import Derived.Test.YtpdimdpphbobiaaSpec2
namespace Go.Proofs.Ytpdimdpphbobiaa
open Go.RowKit

theorem pv_orb (zs : List Int) (a : Nat) : pv zs a = orb zs a (len zs a - 1) := rfl

theorem cyc_cell {w : World} {A : Option Addr} {n c : Nat} {zs : List Int} {a : Nat} (h : Ints w (.slice A n c) (cycI zs a)) (hp : 0 < n) : ∃ b off, A = some ⟨b, off, none⟩ ∧ b < w.heap.size ∧ ∀ k, k < n → w.cell? ⟨b, off + k, none⟩ = some (.int .i64 (orb zs a k : Int)) := by
  obtain ⟨hl, _, _, hc⟩ := h.open_
  obtain ⟨b, off, hA, hb, hcell⟩ := hc hp
  refine ⟨b, off, hA, hb, fun k hk => ?_⟩
  rw [hcell k hk]
  unfold cycI
  rw [nums_get _ _ _ (by rw [cycI_len] at hl; omega)]

theorem RingsOk.len_pos {zs : List Int} (h : RingsOk zs) {a : Nat} (ha : a < zs.length) : 0 < len zs a := (h.perm.per ha).pos
theorem RingsOk.len_le {zs : List Int} (h : RingsOk zs) {a : Nat} (ha : a < zs.length) : len zs a ≤ zs.length := (h.perm.per ha).le

set_option maxHeartbeats 400000 in
theorem before_any (v : Value) (zs : List Int) (a : Nat) (w : World) (hv : Ints w v zs) (hN : zs.length * 8 ≤ 140737488351232) (hok : RingsOk zs) (ha : a < zs.length) :
    Calls Try.prog 22 #[v, .int .i64 a] w fun e w' => e = .returned (.int .i64 (pv zs a)) ∧ Below w.heap.size w w' := by
  have hl := hok.len_le ha
  have hp := hok.len_pos ha
  have HV := hide hv
  have HO := hide hok
  clear hv hok
  go_enter Try.func22, Try.ntmps22
  go_wp2_with fail
  refine (cycle_any _ zs a _ HV.out hN HO.out ha).mono ?_
  rintro e w1 ⟨v1, rfl, hf1, hb1⟩
  obtain ⟨A1, c1, rfl⟩ := hf1.form (cycI_len zs a)
  obtain ⟨b, off, rfl, hb, hcell⟩ := cyc_cell hf1.ints hp
  have hck := hcell (len zs a - 1) (by omega)
  rw [← pv_orb] at hck
  clear hcell hf1
  generalize len zs a = p at *
  go_wp2
  go_ret
  exact ⟨rfl, hb1⟩

/-- A number of elements that may be moved over. -/
def stepsB (n : Int) : Bool := decide (-100000 ≤ n) && decide (n ≤ 100000)

theorem steps_is (n : Int) (w : World) (b : Bool) (hb : stepsB n = b) :
    Calls Try.prog 23 #[.int .i64 n] w fun e w' => e = .returned (.bool b) ∧ w = w' := by
  by_cases h0 : -100000 ≤ n
  · by_cases h1 : n ≤ 100000
    · have : b = true := by rw [← hb]; unfold stepsB; rw [decide_eq_true h0, decide_eq_true h1]; rfl
      subst this
      clear hb
      go_enter Try.func23, Try.ntmps23
      go_wp2
      go_ret
      exact ⟨rfl, rfl⟩
    · have : b = false := by rw [← hb]; unfold stepsB; rw [decide_eq_true h0, decide_eq_false h1]; rfl
      subst this
      have hd : decide (n ≤ 100000) = false := decide_eq_false h1
      clear hb
      go_enter Try.func23, Try.ntmps23
      go_wp2
      go_ret
      exact ⟨rfl, rfl⟩
  · have : b = false := by rw [← hb]; unfold stepsB; rw [decide_eq_false h0]; rfl
    subst this
    clear hb
    go_enter Try.func23, Try.ntmps23
    go_wp2
    go_ret
    exact ⟨rfl, rfl⟩

theorem steps_ok {n : Int} (h : stepsB n = true) : -100000 ≤ n ∧ n ≤ 100000 := by
  unfold stepsB at h
  simpa using h

/-- The element n elements from a on, forward or backward. -/
def mv (zs : List Int) (a : Nat) (n : Int) : Nat := orb zs a (n % (len zs a : Int)).toNat

set_option maxHeartbeats 400000 in
theorem moved_any (v : Value) (zs : List Int) (a : Nat) (n : Int) (w : World) (hv : Ints w v zs) (hN : zs.length * 8 ≤ 140737488351232) (hok : RingsOk zs) (ha : a < zs.length) (hn : -100000 ≤ n ∧ n ≤ 100000) :
    Calls Try.prog 24 #[v, .int .i64 a, .int .i64 n] w fun e w' => e = .returned (.int .i64 (mv zs a n)) ∧ Below w.heap.size w w' := by
  have hl := hok.len_le ha
  have hp := hok.len_pos ha
  have HV := hide hv
  have HO := hide hok
  clear hv hok
  obtain ⟨hn1, hn2⟩ := hn
  go_enter Try.func24, Try.ntmps24
  go_wp2_with fail
  refine (cycle_any _ zs a _ HV.out hN HO.out ha).mono ?_
  rintro e w1 ⟨v1, rfl, hf1, hb1⟩
  obtain ⟨A1, c1, rfl⟩ := hf1.form (cycI_len zs a)
  obtain ⟨b, off, rfl, hb, hcell⟩ := cyc_cell hf1.ints hp
  have hmv : mv zs a n = orb zs a (n % (len zs a : Int)).toNat := rfl
  obtain ⟨m, hm⟩ : ∃ m, mv zs a n = m := ⟨_, rfl⟩
  have HM := hide hm
  rw [hm] at hmv
  clear hm
  generalize len zs a = p at *
  have hp0 : ((p : Int) == 0) = false := by simp; omega
  by_cases h0 : 0 ≤ n
  · obtain ⟨k, hk⟩ : ∃ k : Nat, n % (p : Int) = k := ⟨(n % (p : Int)).toNat, by have := Int.emod_nonneg n (show (p : Int) ≠ 0 by omega); omega⟩
    have hkp : k < p := by have := Int.emod_lt_of_pos n (show (0 : Int) < p by omega); omega
    have hck := hcell k hkp
    rw [hk, Int.toNat_natCast] at hmv
    rw [← hmv] at hck
    clear hcell hf1 hmv
    go_wp2
    go_ret
    exact ⟨ret_i (by rw [HM.out]), hb1⟩
  · obtain ⟨s, hs⟩ : ∃ s : Nat, n.tmod (p : Int) = -(s : Int) := ⟨(-(n.tmod (p : Int))).toNat, by
      have : n.tmod (p : Int) ≤ 0 := by
        have := Int.tmod_nonneg (a := -n) (p : Int) (by omega)
        rw [Int.neg_tmod] at this
        omega
      omega⟩
    have hsp : s < p := by
      have := Int.tmod_lt_of_pos (-n) (show (0 : Int) < p by omega)
      rw [Int.neg_tmod] at this
      omega
    have hem : n % (p : Int) = if s = 0 then 0 else ((p - s : Nat) : Int) := by
      have h1 := Int.tmod_add_mul_tdiv n (p : Int)
      rw [hs] at h1
      split
      · rename_i e
        subst e
        rw [show n = (p : Int) * n.tdiv p by omega]
        exact Int.mul_emod_right _ _
      · rw [show n = ((p - s : Nat) : Int) + (p : Int) * (n.tdiv p - 1) by rw [Int.mul_sub]; omega]
        rw [Int.add_mul_emod_self_left]
        exact Int.emod_eq_of_lt (by omega) (by omega)
    rcases Nat.eq_zero_or_pos s with rfl | hs0
    · have hck := hcell 0 hp
      rw [if_pos rfl] at hem
      rw [hem] at hmv
      simp only [Int.toNat_zero] at hmv
      rw [← hmv] at hck
      have hs' : n.tmod (p : Int) = 0 := by simpa using hs
      simp only [Nat.add_zero] at hck
      clear hcell hf1 hmv hem hs
      go_wp2
      go_ret
      exact ⟨ret_i (by rw [HM.out]), hb1⟩
    · obtain ⟨k, hk⟩ : ∃ k, p - s = k := ⟨_, rfl⟩
      have hck := hcell k (by omega)
      rw [if_neg (by omega), hk] at hem
      rw [hem, Int.toNat_natCast] at hmv
      rw [← hmv] at hck
      have hadd : -(s : Int) + (p : Int) = (k : Int) := by omega
      have hkp : k < p := by omega
      clear hcell hf1 hmv hem hk
      go_wp2
      go_ret
      exact ⟨ret_i (by rw [HM.out]), hb1⟩

end Go.Proofs.Ytpdimdpphbobiaa
