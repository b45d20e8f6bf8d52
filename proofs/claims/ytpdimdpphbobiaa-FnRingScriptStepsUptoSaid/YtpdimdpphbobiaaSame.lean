/-
  ringSame of two lists that have the same numbers.
-/
import Derived.Test.YtpdimdpphbobiaaBase
import Derived.Deep.QuietTactic
import Derived.BigQuiet
namespace Go.Proofs.Ytpdimdpphbobiaa
open Go.RowKit

set_option maxHeartbeats 400000 in
theorem same_true (v1 v2 : Value) (xs : List Int) (w : World) (h1 : Ints w v1 xs) (h2 : Ints w v2 xs) (hN : xs.length ≤ 4611686018427387904) :
    Calls Try.prog 10 #[v1, v2] w fun e w' => e = .returned (.bool true) ∧ Below w.heap.size w w' := by
  obtain ⟨A1, c1, rfl⟩ := h1.form rfl
  obtain ⟨A2, c2, rfl⟩ := h2.form rfl
  have HC1 := hide h1.open_.2.2.2
  have HC2 := hide h2.open_.2.2.2
  obtain ⟨n, hn⟩ : ∃ n, xs.length = n := ⟨_, rfl⟩
  rw [hn] at HC1 HC2 hN ⊢
  have hne : ((n : Int) != (n : Int)) = false := by simp
  clear h1 h2 hn
  go_enter Try.func10, Try.ntmps10
  go_wp2
  go_loopw [5] (fun i wr => ∃ k : Nat, k ≤ n ∧ i = .int .i64 k ∧ Below w.heap.size w wr) (fun i _ => n - (intOf i).toNat)
  case atStart => exact ⟨0, Nat.zero_le _, rfl, Below.refl _ _⟩
  case round =>
    obtain ⟨k, hk, rfl, hbel⟩ := hrel
    by_cases hlt : k < n
    · obtain ⟨b1, o1, rfl, hb1, hc1⟩ := HC1.out (by omega)
      obtain ⟨b2, o2, rfl, hb2, hc2⟩ := HC2.out (by omega)
      have k1 : wr.cell? ⟨b1, o1 + k, none⟩ = _ := (hbel.cell (p := ⟨b1, o1 + k, none⟩) hb1).trans (hc1 k hlt)
      have k2 : wr.cell? ⟨b2, o2 + k, none⟩ = _ := (hbel.cell (p := ⟨b2, o2 + k, none⟩) hb2).trans (hc2 k hlt)
      generalize xs.getD k 0 = x at k1 k2
      have ht : (x != x) = false := by simp
      have g1 : (0 : Int) ≤ (k : Int) := by omega
      have g2 : (k : Int) < (n : Int) := by omega
      clear hc1 hc2
      go_wp2
      go_quiet (fail)
      go_wp2
      go_roundw
      case rel => exact ⟨k + 1, by omega, by go_num, ⟨hbel.os, hbel.tape, hbel.output, hbel.size, hbel.block⟩⟩
      case measure => simp [intOf]; omega
    · go_wp2
      go_ret
      exact ⟨rfl, hbel⟩

end Go.Proofs.Ytpdimdpphbobiaa
