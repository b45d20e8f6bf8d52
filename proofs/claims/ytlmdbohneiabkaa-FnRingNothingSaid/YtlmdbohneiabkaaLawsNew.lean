/-
  The laws on New: FnRingNew, FnRingNothing.
-/
import Derived.Test.YtlmdbohneiabkaaRingNew
import Derived.Deep.QuietTactic
import Derived.BigQuiet
namespace Go.Proofs.Ytlmdbohneiabkaa
open Go.RowKit

theorem suc_mod (n i : Nat) (hi : i < n) : ((sucN n i : Nat) : Int) = ((i : Int) + 1) % (n : Int) := by
  unfold sucN
  rw [show ((i : Int) + 1) = ((i + 1 : Nat) : Int) by omega, ← Int.natCast_emod]
  split
  · rw [Nat.mod_eq_of_lt (by omega)]
  · rw [show i + 1 = n by omega, Nat.mod_self]

set_option maxHeartbeats 400000 in
theorem fnRingNothing_any (n : Int) (w : World) (_hn : (Lit.int .i64 n).wf = true) :
    Calls Try.prog 6 #[.int .i64 n] w fun e w' => e = .returned (.bool true) ∧ Below w.heap.size w w' := by
  by_cases h0 : n ≤ 0
  · go_enter Try.func6, Try.ntmps6
    go_wp2_with fail
    refine (ringNew_int 1 1 _ rfl (by omega) (by omega)).mono ?_
    rintro e w1 ⟨v1, rfl, hf1, hb1⟩
    obtain ⟨A1, c1, rfl⟩ := hf1.form (nums_len _ _)
    go_wp2_with fail
    refine (ringNew_none _ _ h0).mono ?_
    rintro e w2 ⟨v2, rfl, hf2, hb2⟩
    obtain ⟨A2, c2, rfl⟩ := hf2.form (n := 0) rfl
    go_wp2
    go_ret
    exact ⟨rfl, hb1.trans (hb2.mono hb1.size)⟩
  · go_enter Try.func6, Try.ntmps6
    go_wp2_with fail
    refine (ringNew_int 1 1 _ rfl (by omega) (by omega)).mono ?_
    rintro e w1 ⟨v1, rfl, hf1, hb1⟩
    obtain ⟨A1, c1, rfl⟩ := hf1.form (nums_len _ _)
    go_wp2
    go_ret
    exact ⟨rfl, hb1⟩

set_option maxHeartbeats 400000 in
theorem fnRingNew_any (z : Int) (w : World) (_hn : (Lit.int .i64 z).wf = true) :
    Calls Try.prog 5 #[.int .i64 z] w fun e w' => e = .returned (.bool true) ∧ Below w.heap.size w w' := by
  by_cases h0 : z < 0
  · go_enter Try.func5, Try.ntmps5
    go_wp2
    go_ret
    exact ⟨rfl, Below.refl _ _⟩
  by_cases h1 : 100000 < z
  · go_enter Try.func5, Try.ntmps5
    go_wp2
    go_ret
    exact ⟨rfl, Below.refl _ _⟩
  obtain ⟨n, rfl⟩ : ∃ n : Nat, z = n := ⟨z.toNat, by omega⟩
  have key : ∀ w : World, Calls Try.prog 17 #[.int .i64 n] w fun e w' => ∃ v', e = .returned v' ∧ Fresh w.heap.size w' v' (nums (sucN n) n) ∧ Below w.heap.size w w' := by
    intro w
    rcases Nat.eq_zero_or_pos n with rfl | hp
    · exact ringNew_none 0 w (Int.le_refl _)
    · exact ringNew_any n w hp (by omega)
  have KK := hide key
  clear key
  have hne : ((n : Int) != (n : Int)) = false := by simp
  go_enter Try.func5, Try.ntmps5
  go_wp2_with fail
  refine (KK.out _).mono ?_
  rintro e w1 ⟨v1, rfl, hf1, hb1⟩
  obtain ⟨A1, c1, rfl⟩ := hf1.form (nums_len _ _)
  have hi1 := hide hf1.ints
  have HB := hide hb1
  clear hf1 hb1
  go_wp2
  go_loopw [4] (fun i wr => ∃ k : Nat, k ≤ n ∧ i = .int .i64 k ∧ Below w1.heap.size w1 wr) (fun i _ => n - (intOf i).toNat)
  case atStart => exact ⟨0, Nat.zero_le _, rfl, Below.refl _ _⟩
  case round =>
    obtain ⟨k, hk, rfl, hbel⟩ := hrel
    by_cases hlt : k < n
    · obtain ⟨-, -, -, hc⟩ := (hi1.out.below hbel).open_
      obtain ⟨b, off, rfl, hb, hcell⟩ := hc (by omega)
      have hck := hcell k hlt
      rw [nums_get _ _ _ hlt] at hck
      have hm := suc_mod n k hlt
      generalize hx : sucN n k = x at hck hm
      have ht : ((x : Int) != ((k : Int) + 1) % (n : Int)) = false := by rw [← hm]; simp
      have hn0 : ((n : Int) == 0) = false := by simp; omega
      have g1 : (0 : Int) ≤ (k : Int) := by omega
      have g2 : (k : Int) < (n : Int) := by omega
      clear hx hm hcell hc
      go_wp2
      go_quiet (fail)
      go_wp2
      go_roundw
      case rel => exact ⟨k + 1, by omega, by go_num, ⟨hbel.os, hbel.tape, hbel.output, hbel.size, hbel.block⟩⟩
      case measure => simp [intOf]; omega
    · go_wp2
      go_ret
      exact ⟨rfl, HB.out.trans (hbel.mono HB.out.size)⟩

end Go.Proofs.Ytlmdbohneiabkaa
