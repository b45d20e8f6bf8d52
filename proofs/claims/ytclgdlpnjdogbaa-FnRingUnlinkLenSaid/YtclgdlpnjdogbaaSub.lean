/-
  A part of a slice.
-/
import Derived.Test.YtclgdlpnjdogbaaLMath
import Derived.Test.YtclgdlpnjdogbaaLawsD
namespace Go.Proofs.Ytclgdlpnjdogbaa

theorem nums_sub (f : Nat → Nat) (n lo m : Nat) (h : lo + m ≤ n) : ((nums f n).drop lo).take m = nums (fun k => f (k + lo)) m := by
  apply List.ext_getElem?
  intro i
  rw [List.getElem?_take]
  rcases Nat.lt_or_ge i m with hi | hi
  · rw [if_pos hi, List.getElem?_drop]
    unfold nums
    rw [List.getElem?_map, List.getElem?_map, List.getElem?_range (by omega), List.getElem?_range hi]
    simp [Nat.add_comm]
  · rw [if_neg (by omega), List.getElem?_eq_none (by rw [nums_len]; exact hi)]

theorem ints_sub {w : World} {b off n c lo m : Nat} {f : Nat → Nat} (h : Ints w (.slice (some ⟨b, off, none⟩) n c) (nums f n)) (hm : lo + m ≤ n) : Ints w (.slice (some ⟨b, off + lo, none⟩) m (c - lo)) (nums (fun k => f (k + lo)) m) := by
  obtain ⟨_, hn, hc, hcell⟩ := h.open_
  refine ⟨_, c - lo, by rw [nums_len], by rw [nums_len]; omega, by omega, fun h0 => ?_⟩
  rw [nums_len] at h0
  obtain ⟨b', off', e, hb, hcell⟩ := hcell (by omega)
  injection e with e
  injection e with e1 e2
  subst e1 e2
  refine ⟨b, off + lo, rfl, hb, fun i hi => ?_⟩
  rw [nums_len] at hi
  have := hcell (i + lo) (by omega)
  rw [nums_get _ _ _ (by omega)] at this
  show w.cell? ⟨b, off + lo + i, none⟩ = some (.int .i64 ((nums (fun k => f (k + lo)) m).getD i 0))
  rw [nums_get _ _ _ hi, ← this, show off + lo + i = off + (i + lo) by omega]

/-- The ring of b, read out of the ring of a behind Link. -/
theorem cyc_two {zs : List Int} {a b : Nat} (hok : RingsOk zs) (ha : a < zs.length) (hb : b < zs.length) (h : inB zs a b = false) : nums (fun k => orb (linkI zs a b) a (k + 1)) (len zs b) = cycI zs b :=
  nums_congr fun _ hk => orb_two hok ha hb h hk

end Go.Proofs.Ytclgdlpnjdogbaa
