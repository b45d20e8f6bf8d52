/-
  The statement 'FnRingScriptSteps' of the given rows: for every input of at most 1048576 values the law returns true, and each argument reads as it did. Conditions: none beyond the statement's own.
-/
import Derived.Test.YtpdimdpphbobiaaRows
import Derived.Test.YtpdimdpphbobiaaLC5
import Derived.ProofKit
import Derived.OpenShut
import Derived.ChangeOld
import Derived.SizedLaws
import Derived.JoinedCond
import Derived.Test.YtpdimdpphbobiaaBulk
namespace Go.Proofs.Ytpdimdpphbobiaa.fnRingScriptStepsUpto
open Go.ChangeShapes Go.WideShapes Go.ChangeAt Go.RowKit

theorem own : ownKnob Try.prog.godebug = none := by kernel_rfl
theorem laidOut : laidOutB Try.prog = true := by kernel_rfl

set_option maxRecDepth 100000 in
theorem lifted (os : Os) (started : os.Started) (H : Type) (enc : TypeId × Value → H) (F : Stop.Interp) :
    ReturnsInHanded {} Try.checked os 4 .any ((Rows.OpenSpec.upto Rows.fnRingScriptStepsSpec).pre6 enc Try.prog Try.f4 Rows.fnRingScriptStepsUptoRow.domain false) (((Rows.OpenSpec.upto Rows.fnRingScriptStepsSpec).at F).post enc Try.prog Try.f4 false true false false) := by
  refine returnsInHanded_of_cond (C := Try.checked) (s := (Rows.OpenSpec.upto Rows.fnRingScriptStepsSpec)) (k := Rows.uptoSmall) rfl own started (by kernel_rfl) Try.func4
    (OpenSpec.witness (enc := enc) (C := Try.checked) (s := (Rows.OpenSpec.upto Rows.fnRingScriptStepsSpec)) (k := Rows.uptoSmall) rfl false ⟨#[], #[.slice none 0 0, .slice none 0 0, .slice none 0 0, .slice none 0 0], []⟩ 8 (by kernel_rfl) (by kernel_rfl) (by kernel_rfl) (x := ([.nil, .nil, .nil, .nil], [], [])) (by kernel_rfl) rfl (by kernel_rfl)) ?_
  intro W base args ds gs before hval0 hW _ hk _
  have hval : ∀ (j : Nat) t v, Try.f4.params[j]? = some t → args[j]? = some v → Value.okWide Try.prog W .any base t v := hval0
  have hW' := hW
  obtain ⟨p, q, hA0, hV, rfl, _, _⟩ := hW
  have hA : DataW.TrodAll enc Try.prog W 0 (fun _ => true) true Try.f4.params.toList args.toList ds p := hA0
  rw [Try.params4] at hA hval
  obtain ⟨v0, vs0, d0, ds0, p0, q0, hargs, rfl, rfl, h0, r0⟩ := trodAll_cons hA
  obtain ⟨v1, vs1, d1, ds1, p1, q1, rfl, rfl, rfl, h1, r1⟩ := trodAll_cons r0
  obtain ⟨v2, vs2, d2, ds2, p2, q2, rfl, rfl, rfl, h2, r2⟩ := trodAll_cons r1
  obtain ⟨v3, vs3, d3, ds3, p3, q3, rfl, rfl, rfl, h3, r3⟩ := trodAll_cons r2
  obtain ⟨rfl, rfl, rfl⟩ := trodAll_nil r3
  obtain rfl : args = #[v0, v1, v2, v3] := by cases args; simp_all
  obtain ⟨rfl, rfl⟩ := trodVars_none hV
  obtain ⟨s0, len0, cap0, rfl⟩ := okWide_slice Try.underlying22 (hval 0 22 v0 rfl rfl)
  have k0 := h0
  have lt0 : ∀ x ∈ p0, x.block < W.heap.size := by obtain ⟨m, hm⟩ := k0; exact DataW.trod_lt m _ _ _ hm
  obtain ⟨z0, g0, b0⟩ : ∃ zs : List Int, Ints W (.slice s0 len0 cap0) zs ∧ zs.length ≤ 1048576 := by
    obtain ⟨fuel, hf⟩ := h0
    rcases open_ints Try.underlying22 Try.underlying2 (by kernel_rfl) hf with ⟨hcs, _⟩ | ⟨x, l, c, zs, hcs, _, hl, hm, hz, hx, hcell, _⟩
    · simp [Value.cells] at hcs
      obtain ⟨rfl, rfl, rfl⟩ := hcs
      exact ⟨[], ints_none W, by simp⟩
    · simp [Value.cells] at hcs
      obtain ⟨rfl, rfl, rfl⟩ := hcs
      simp only [Prod.mk.injEq] at hx
      obtain ⟨hd, hpl⟩ := hx
      simp only [if_true] at hz
      have hr := bulk.slice (elems := lits .i64 (zs.take len0)) (spare := lits .i64 (zs.drop len0)) hk (by rw [hd]; simp)
      simp only [lits, List.length_map, List.length_take] at hr
      refine ⟨zs.take len0, ints_open hl hm hz hcell (fun h0 => ?_), by rw [List.length_take]; omega⟩
      refine lt0 (.cell x.block x.off) ?_
      rw [hpl]
      exact MemPlace.mem_row.2 ⟨0, by omega, by simp⟩
  obtain ⟨s1, len1, cap1, rfl⟩ := okWide_slice Try.underlying22 (hval 1 22 v1 rfl rfl)
  have k1 := h1
  have lt1 : ∀ x ∈ p1, x.block < W.heap.size := by obtain ⟨m, hm⟩ := k1; exact DataW.trod_lt m _ _ _ hm
  obtain ⟨z1, g1, b1⟩ : ∃ zs : List Int, Ints W (.slice s1 len1 cap1) zs ∧ zs.length ≤ 1048576 := by
    obtain ⟨fuel, hf⟩ := h1
    rcases open_ints Try.underlying22 Try.underlying2 (by kernel_rfl) hf with ⟨hcs, _⟩ | ⟨x, l, c, zs, hcs, _, hl, hm, hz, hx, hcell, _⟩
    · simp [Value.cells] at hcs
      obtain ⟨rfl, rfl, rfl⟩ := hcs
      exact ⟨[], ints_none W, by simp⟩
    · simp [Value.cells] at hcs
      obtain ⟨rfl, rfl, rfl⟩ := hcs
      simp only [Prod.mk.injEq] at hx
      obtain ⟨hd, hpl⟩ := hx
      simp only [if_true] at hz
      have hr := bulk.slice (elems := lits .i64 (zs.take len1)) (spare := lits .i64 (zs.drop len1)) hk (by rw [hd]; simp)
      simp only [lits, List.length_map, List.length_take] at hr
      refine ⟨zs.take len1, ints_open hl hm hz hcell (fun h0 => ?_), by rw [List.length_take]; omega⟩
      refine lt1 (.cell x.block x.off) ?_
      rw [hpl]
      exact MemPlace.mem_row.2 ⟨0, by omega, by simp⟩
  obtain ⟨s2, len2, cap2, rfl⟩ := okWide_slice Try.underlying22 (hval 2 22 v2 rfl rfl)
  have k2 := h2
  have lt2 : ∀ x ∈ p2, x.block < W.heap.size := by obtain ⟨m, hm⟩ := k2; exact DataW.trod_lt m _ _ _ hm
  obtain ⟨z2, g2, b2⟩ : ∃ zs : List Int, Ints W (.slice s2 len2 cap2) zs ∧ zs.length ≤ 1048576 := by
    obtain ⟨fuel, hf⟩ := h2
    rcases open_ints Try.underlying22 Try.underlying2 (by kernel_rfl) hf with ⟨hcs, _⟩ | ⟨x, l, c, zs, hcs, _, hl, hm, hz, hx, hcell, _⟩
    · simp [Value.cells] at hcs
      obtain ⟨rfl, rfl, rfl⟩ := hcs
      exact ⟨[], ints_none W, by simp⟩
    · simp [Value.cells] at hcs
      obtain ⟨rfl, rfl, rfl⟩ := hcs
      simp only [Prod.mk.injEq] at hx
      obtain ⟨hd, hpl⟩ := hx
      simp only [if_true] at hz
      have hr := bulk.slice (elems := lits .i64 (zs.take len2)) (spare := lits .i64 (zs.drop len2)) hk (by rw [hd]; simp)
      simp only [lits, List.length_map, List.length_take] at hr
      refine ⟨zs.take len2, ints_open hl hm hz hcell (fun h0 => ?_), by rw [List.length_take]; omega⟩
      refine lt2 (.cell x.block x.off) ?_
      rw [hpl]
      exact MemPlace.mem_row.2 ⟨0, by omega, by simp⟩
  obtain ⟨s3, len3, cap3, rfl⟩ := okWide_slice Try.underlying22 (hval 3 22 v3 rfl rfl)
  have k3 := h3
  have lt3 : ∀ x ∈ p3, x.block < W.heap.size := by obtain ⟨m, hm⟩ := k3; exact DataW.trod_lt m _ _ _ hm
  obtain ⟨z3, g3, b3⟩ : ∃ zs : List Int, Ints W (.slice s3 len3 cap3) zs ∧ zs.length ≤ 1048576 := by
    obtain ⟨fuel, hf⟩ := h3
    rcases open_ints Try.underlying22 Try.underlying2 (by kernel_rfl) hf with ⟨hcs, _⟩ | ⟨x, l, c, zs, hcs, _, hl, hm, hz, hx, hcell, _⟩
    · simp [Value.cells] at hcs
      obtain ⟨rfl, rfl, rfl⟩ := hcs
      exact ⟨[], ints_none W, by simp⟩
    · simp [Value.cells] at hcs
      obtain ⟨rfl, rfl, rfl⟩ := hcs
      simp only [Prod.mk.injEq] at hx
      obtain ⟨hd, hpl⟩ := hx
      simp only [if_true] at hz
      have hr := bulk.slice (elems := lits .i64 (zs.take len3)) (spare := lits .i64 (zs.drop len3)) hk (by rw [hd]; simp)
      simp only [lits, List.length_map, List.length_take] at hr
      refine ⟨zs.take len3, ints_open hl hm hz hcell (fun h0 => ?_), by rw [List.length_take]; omega⟩
      refine lt3 (.cell x.block x.off) ?_
      rw [hpl]
      exact MemPlace.mem_row.2 ⟨0, by omega, by simp⟩
  clear hA0 hval0 hk
  refine (fnRingScriptSteps_any (.slice s0 len0 cap0) z0 (.slice s1 len1 cap1) z1 (.slice s2 len2 cap2) z2 (.slice s3 len3 cap3) z3 W g0 b0 g1 b1 g2 b2 g3 b3).mono fun e W' ⟨he, bel⟩ => ?_
  subst he
  exact ⟨_, rfl, _, _, _, [], _, [], hW', trodAll_mk1 (shut_bool Try.underlying4 _), (trodAll_cons_mk (Below.trod laidOut (by kernel_rfl) (of_decide_eq_true (by kernel_rfl)) k0 bel lt0) (trodAll_cons_mk (Below.trod laidOut (by kernel_rfl) (of_decide_eq_true (by kernel_rfl)) k1 bel lt1) (trodAll_cons_mk (Below.trod laidOut (by kernel_rfl) (of_decide_eq_true (by kernel_rfl)) k2 bel lt2) (trodAll_cons_mk (Below.trod laidOut (by kernel_rfl) (of_decide_eq_true (by kernel_rfl)) k3 bel lt3) trodAll_mk0)))), rfl, bel.frame _, fun h => by cases h⟩

theorem proved : Rows.FnRingScriptStepsUptoSaid :=
  OpenClaim.holds_of_cond 4 Try.f4 rfl rfl rfl rfl rfl rfl rfl ⟨rfl, rfl, rfl, rfl, rfl⟩ rfl rfl rfl rfl rfl (by kernel_rfl) Try.func4 (by kernel_rfl)
    (of_decide_eq_true (by kernel_rfl)) (by unfold Func.isWrapper; first | (rw [if_pos (by decide +kernel)]; kernel_rfl) | (rw [if_neg (by decide +kernel)]; exact ⟨rfl, rfl⟩))
    (fun os started H enc _ F => lifted os started H enc F)
#print axioms proved
end Go.Proofs.Ytpdimdpphbobiaa.fnRingScriptStepsUpto
