/-
  New: a ring of n elements in n new blocks, one behind the other.
-/
import Derived.Test.YtpdimdpphbobiaaRing
namespace Go.Proofs.Ytpdimdpphbobiaa
open Go.RowKit

/-- What follows element j of a new ring of n elements; what it follows. -/
def sucN (n j : Nat) : Nat := if j + 1 < n then j + 1 else 0
def preN (n j : Nat) : Nat := if j = 0 then n - 1 else j - 1

theorem perm_new (n : Nat) (h : 0 < n) : RM.Perm n (sucN n) (preN n) := by
  refine ⟨fun i hi => ?_, fun i hi => ?_, fun i hi => ?_, fun i hi => ?_⟩
  · unfold sucN; split <;> omega
  · unfold preN; split <;> omega
  · unfold sucN preN
    by_cases h1 : i + 1 < n
    · rw [if_pos h1, if_neg (by omega)]; omega
    · rw [if_neg h1, if_pos rfl]; omega
  · unfold sucN preN
    by_cases h1 : i = 0
    · rw [if_pos h1, if_neg (by omega)]; omega
    · rw [if_neg h1, if_pos (by omega)]; omega

/-- The chain while it is made: i blocks from B on; the last one has no next, the first one no previous element. -/
structure Chain (w : World) (B i : Nat) : Prop where
  size : w.heap.size = B + i
  blk : ∀ j, j < i → Blk w (B + j) 54 #[if j + 1 < i then .pointer (some ⟨B + (j + 1), 0, none⟩) else .pointer none, if j = 0 then .pointer none else .pointer (some ⟨B + (j - 1), 0, none⟩), .nilIface]

theorem chain_one (w : World) : Chain (w.alloc (.cells #[.pointer none, .pointer none, .nilIface] 54)) w.heap.size 1 := by
  refine ⟨by simp, fun j hj => ?_⟩
  obtain rfl : j = 0 := by omega
  exact Blk.new _ _ _

theorem chain_step {w : World} {B i q : Nat} (h : Chain w B i) (hq : q + 1 = B + i) (hi : 0 < i) :
    Chain ((w.alloc (.cells #[.pointer none, .pointer (some ⟨q, 0, none⟩), .nilIface] 54)).setCell ⟨q, 0, none⟩ (.pointer (some ⟨w.heap.size, 0, none⟩))) B (i + 1) := by
  have hs := h.size
  refine ⟨by simp [World.setCell] at *; omega, fun j hj => ?_⟩
  by_cases h1 : j = i
  · subst h1
    have := Blk.new w 54 #[.pointer none, .pointer (some ⟨q, 0, none⟩), .nilIface]
    have := this.far (p := ⟨q, 0, none⟩) (by show w.heap.size ≠ q; omega) (.pointer (some ⟨w.heap.size, 0, none⟩))
    rw [if_neg (by omega), if_neg (by omega), show B + (j - 1) = q by omega]
    rw [hs] at this
    rw [hs]
    exact this
  · have hb := (h.blk j (by omega)).alloc (.cells #[.pointer none, .pointer (some ⟨q, 0, none⟩), .nilIface] 54)
    by_cases h2 : B + j = q
    · have := hb.set_ 0 (.pointer (some ⟨w.heap.size, 0, none⟩))
      rw [h2] at this ⊢
      rw [if_pos (by omega), show B + (j + 1) = w.heap.size by omega]
      simpa using this
    · have := hb.far (p := ⟨q, 0, none⟩) (by show B + j ≠ q; exact h2) (.pointer (some ⟨w.heap.size, 0, none⟩))
      rw [if_pos (by omega)] at this ⊢
      exact this

theorem chain_done {w : World} {B n q : Nat} (h : Chain w B n) (hq : q + 1 = B + n) (hn : 0 < n) :
    RingV ((w.setCell ⟨q, 0, none⟩ (.pointer (some ⟨B, 0, none⟩))).setCell ⟨B, 1, none⟩ (.pointer (some ⟨q, 0, none⟩))) n (fun j => B + j) (sucN n) (preN n) (fun _ => .nilIface) := by
  refine ⟨fun j hj => ?_, fun i j _ _ e => by simpa using e⟩
  have hb := h.blk j hj
  unfold sucN preN
  by_cases h2 : B + j = q
  · have hb1 := hb.set_ 0 (.pointer (some ⟨B, 0, none⟩))
    rw [if_neg (by omega)]
    by_cases h3 : j = 0
    · subst h3
      have hb2 := hb1.set_ 1 (.pointer (some ⟨q, 0, none⟩))
      rw [if_pos rfl]
      simp only [Nat.add_zero] at h2 hb2 ⊢
      rw [show B + (n - 1) = q by omega]
      rw [h2] at hb2 ⊢
      simpa using hb2
    · have hb2 := hb1.far (p := ⟨B, 1, none⟩) (by show B + j ≠ B; omega) (.pointer (some ⟨q, 0, none⟩))
      rw [if_neg h3] at hb2 ⊢
      simp only [Nat.add_zero]
      rw [h2] at hb2 ⊢
      simpa using hb2
  · have hb1 := hb.far (p := ⟨q, 0, none⟩) (by show B + j ≠ q; exact h2) (.pointer (some ⟨B, 0, none⟩))
    rw [if_pos (by omega)] at hb1 ⊢
    by_cases h3 : j = 0
    · subst h3
      have hb2 := hb1.set_ 1 (.pointer (some ⟨q, 0, none⟩))
      rw [if_pos rfl]
      rw [show B + (n - 1) = q by omega]
      simpa using hb2
    · have hb2 := hb1.far (p := ⟨B, 1, none⟩) (by show B + j ≠ B; omega) (.pointer (some ⟨q, 0, none⟩))
      rw [if_neg h3] at hb2 ⊢
      exact hb2

theorem new_none (n : Int) (w : World) (hn : n ≤ 0) :
    Calls Try.prog 39 #[.int .i64 n] w fun e w' => e = .returned (.pointer none) ∧ w = w' := by
  go_enter Try.func39, Try.ntmps39
  go_wp2
  go_ret
  exact ⟨rfl, rfl⟩

set_option maxHeartbeats 400000 in
theorem new_any (n : Nat) (w : World) (hn : 0 < n) (hm : n ≤ 4611686018427387904) :
    Calls Try.prog 39 #[.int .i64 n] w fun e w' => e = .returned (.pointer (some ⟨w.heap.size, 0, none⟩)) ∧
      RingV w' n (fun j => w.heap.size + j) (sucN n) (preN n) (fun _ => .nilIface) ∧ w'.heap.size = w.heap.size + n ∧ Below w.heap.size w w' := by
  have hd : decide (n = 0) = false := by simp; omega
  go_enter Try.func39, Try.ntmps39
  go_wp2
  go_loopw [4, 5] (fun p i wr => ∃ k q : Nat, 0 < k ∧ k ≤ n ∧ Hid (q + 1 = w.heap.size + k) ∧ p = .pointer (some ⟨q, 0, none⟩) ∧ i = .int .i64 k ∧ Chain wr w.heap.size k ∧ Below w.heap.size w wr) (fun _ i _ => n - (intOf i).toNat)
  case atStart => exact ⟨1, w.heap.size, by omega, by omega, rfl, rfl, rfl, chain_one w, (Below.refl _ _).alloc (Nat.le_refl _) _⟩
  case round =>
    obtain ⟨k, q, hk0, hk, hq, rfl, rfl, hch, hbel⟩ := hrel
    have hsz := hch.size
    have hq' := hq.out
    have hbq := hch.blk (k - 1) (by omega)
    rw [show w.heap.size + (k - 1) = q by omega, if_neg (by omega)] at hbq
    by_cases hlt : k < n
    · have c0 : ∀ o, (wr.alloc o).cell? ⟨q, 0, none⟩ = some (.pointer none) := fun o => (hbq.alloc o).cell 0
      have f0 : ∀ o, (wr.alloc o).frozen? ⟨q, 0, none⟩ = false := fun o => (hbq.alloc o).frozen 0
      have R := hide (chain_step hch hq' hk0)
      have RB := hide ((hbel.alloc (by omega) (.cells #[.pointer none, .pointer (some ⟨q, 0, none⟩), .nilIface] 54)).setCell (p := ⟨q, 0, none⟩) (by show w.heap.size ≤ q; omega) (.pointer (some ⟨wr.heap.size, 0, none⟩)))
      have hs1 : wr.heap.size + 1 = w.heap.size + (k + 1) := by omega
      have HS := hide hs1
      clear hbq hch hsz hq' hbel hs1
      go_wp2
      go_roundw
      case rel => exact ⟨k + 1, wr.heap.size, by omega, by omega, HS, rfl, by go_num, R.out, RB.out⟩
      case measure => simp [intOf]; omega
    · obtain rfl : k = n := by omega
      have R := hide (chain_done hch hq' hk0)
      have RB := hide ((hbel.setCell (p := ⟨q, 0, none⟩) (by show w.heap.size ≤ q; omega) (.pointer (some ⟨w.heap.size, 0, none⟩))).setCell (p := ⟨w.heap.size, 1, none⟩) (Nat.le_refl _) (.pointer (some ⟨q, 0, none⟩)))
      have HS := hide hsz
      have c0 : wr.cell? ⟨q, 0, none⟩ = some (.pointer none) := hbq.cell 0
      have f0 : wr.frozen? ⟨q, 0, none⟩ = false := hbq.frozen 0
      have hbB := hch.blk 0 hk0
      rw [Nat.add_zero, if_pos rfl] at hbB
      have c1 : wr.cell? ⟨w.heap.size, 1, none⟩ = some (.pointer none) := hbB.cell 1
      have f1 : wr.frozen? ⟨w.heap.size, 1, none⟩ = false := hbB.frozen 1
      clear hbq hch hsz hq' hbel hbB
      go_wp2
      go_ret
      exact ⟨rfl, R.out, by simpa [World.setCell] using HS.out, RB.out⟩

end Go.Proofs.Ytpdimdpphbobiaa
