/-
  The reference's Linked of two rings, and Unlinked.
-/
import Derived.Test.YtpdimdpphbobiaaSpecL
import Derived.Test.YtpdimdpphbobiaaNums
import Derived.Deep.RegionHeld3
import Derived.Deep.QuietTactic
import Derived.BigQuiet
namespace Go.Proofs.Ytpdimdpphbobiaa
open Go.RowKit

/-- A row of the call's own, at the head of block g, that holds the numbers F 0 .. F (N - 1). -/
def OutRow (B g cap N : Nat) (F : Nat → Nat) (w : World) : Prop := w.ownsRow B 2 1 (.slice (some ⟨g, 0, none⟩) N cap) N (vals F N)

section
variable {B g cap N : Nat} {F G : Nat → Nat} {w w' : World}
theorem vals_get (F : Nat → Nat) (n k : Nat) (h : k < n) : (vals F n)[k]? = some (.int .i64 (F k : Int)) := by unfold vals; simp [h]
theorem vals_congr (h : ∀ i, i < N → F i = G i) : vals F N = vals G N := by
  unfold vals
  apply List.map_congr_left
  intro i hi
  rw [h i (by simpa using hi)]
theorem vals_set (F : Nat → Nat) (n k y : Nat) : (vals F n).set k (.int .i64 (y : Int)) = vals (fun x => if x = k then y else F x) n := by
  apply List.ext_getElem?
  intro i
  rcases Nat.lt_or_ge i n with hi | hi
  · rw [vals_get _ _ _ hi, List.getElem?_set]
    by_cases e : k = i
    · subst e
      simp [vals_len, hi]
    · rw [if_neg e, vals_get _ _ _ hi, if_neg (fun h => e h.symm)]
  · rw [List.getElem?_eq_none (by rw [List.length_set, vals_len]; exact hi), List.getElem?_eq_none (by rw [vals_len]; exact hi)]
theorem OutRow.cell (h : OutRow B g cap N F w) {k : Nat} (hk : k < N) : w.cell? ⟨g, k, none⟩ = some (.int .i64 (F k : Int)) := by
  have := World.ownsRow.cellAt h k (by omega)
  rw [this, vals_get _ _ _ hk]
theorem OutRow.frozen (h : OutRow B g cap N F w) (k : Nat) : w.frozen? ⟨g, k, none⟩ = false := World.ownsRow.frozenAt h k
theorem OutRow.set (h : OutRow B g cap N F w) (k y : Nat) : OutRow B g cap N (fun x => if x = k then y else F x) (w.setCell ⟨g, k, none⟩ (.int .i64 (y : Int))) := by
  have := (World.ownsRow.stored h k (.int .i64 (y : Int))).1
  unfold OutRow
  rw [← vals_set]
  exact this
theorem OutRow.congr (h : OutRow B g cap N F w) (e : ∀ i, i < N → F i = G i) : OutRow B g cap N G w := by
  unfold OutRow at *
  rw [← vals_congr e]
  exact h
theorem OutRow.below {C : Nat} (h : OutRow B g cap N F w) (hb : Below C w w') (hg : g < C) : OutRow B g cap N F w' := by
  obtain ⟨h1, h2⟩ := h
  refine ⟨h1, ?_⟩
  rcases h2 with h2 | ⟨g', cap', cur, hv, hg', hh, r⟩
  · exact .inl h2
  · have e : g = g' := by injection hv with hv; injection hv with hv; injection hv
    subst e
    exact .inr ⟨g, cap', cur, hv, hg', by rw [hb.block g hg]; exact hh, r⟩
theorem cell_far (w : World) (p q : Addr) (v : Value) (h : q.block ≠ p.block) : (w.setCell p v).cell? q = w.cell? q := World.cell?_setCell_other _ _ _ _ (fun e => h (by rw [e]))
theorem below_draws {C : Nat} {a w : World} (h : Below C a w) (n : Nat) : Below C a (w.drew.drewN n) := ⟨h.os, h.tape, h.output, h.size, h.block⟩
theorem Fresh.draws {C : Nat} {w : World} {v : Value} {xs : List Int} (h : Fresh C w v xs) (n : Nat) : Fresh C (w.drew.drewN n) v xs := h
theorem OutRow.lt (h : OutRow B g cap N F w) : B ≤ g ∧ g < w.heap.size := World.ownsRow.lt h g rfl
theorem OutRow.fresh (h : OutRow B g cap N F w) : Fresh B w (.slice (some ⟨g, 0, none⟩) N cap) (nums F N) := fresh_vals h
theorem outRow_of {v : Value} (h : Fresh B w v (nums F N)) (hN : 0 < N) : ∃ g cap, v = .slice (some ⟨g, 0, none⟩) N cap ∧ OutRow B g cap N F w := by
  unfold Fresh at h
  rw [nums_len, nums_map] at h
  obtain ⟨g, cap, rfl, _, _⟩ := h.form hN
  exact ⟨g, cap, rfl, h⟩
end

set_option maxHeartbeats 1000000 in
theorem linked_two (v : Value) (zs : List Int) (a b : Nat) (w : World) (hv : Ints w v zs) (hN : zs.length * 8 ≤ 140737488351232) (hok : RingsOk zs) (ha : a < zs.length) (hb : b < zs.length) (hin : inB zs a b = false) :
    Calls Try.prog 25 #[v, .int .i64 a, .int .i64 b] w fun e w' => ∃ v', e = .returned (.tuple #[v', .int .i64 (nx zs a)]) ∧ Fresh w.heap.size w' v' (linkI zs a b) ∧ Below w.heap.size w w' := by
  have HV := hide hv
  have HO := hide hok
  have HI := hide hin
  obtain ⟨A, c, rfl⟩ := hv.form rfl
  obtain ⟨bb, off, rfl, hbb, hcell⟩ := hv.open_.2.2.2 (by omega)
  have hca : w.cell? ⟨bb, off + a, none⟩ = some (.int .i64 (nx zs a : Int)) := by rw [hcell a ha, hok.nx_eq ha]
  have HCA := hide hca
  have hl := hok.len_le hb
  have hp := hok.len_pos hb
  have hpl := hok.perm.g_lt b hb
  clear hv hok hin hcell hca
  go_enter Try.func25, Try.ntmps25
  go_wp2_with fail
  refine (own_any _ zs _ HV.out hN).mono ?_
  rintro e w1 ⟨v1, rfl, hf1, hb1⟩
  have hf1' : Fresh w.heap.size w1 v1 (nums (nx zs) zs.length) := by rw [zs_nums HO.out]; exact hf1
  obtain ⟨g, cap, rfl, ho1⟩ := outRow_of hf1' (by omega)
  clear hf1 hf1'
  have H1 := hide ho1
  clear ho1
  go_wp2_with fail
  refine (inRing_is _ zs a b _ false HI.out (HV.out.below hb1) hN HO.out ha).mono ?_
  rintro e w2 ⟨rfl, hb2⟩
  have B2 := hb1.trans (hb2.mono hb1.size)
  have H2 := hide (H1.out.below hb2 H1.out.lt.2)
  clear hb1 hb2
  go_wp2_with fail
  refine (cycle_any _ zs b _ (HV.out.below B2) hN HO.out hb).mono ?_
  rintro e w3 ⟨v3, rfl, hf3, hb3⟩
  obtain ⟨A3, c3, rfl⟩ := hf3.form (cycI_len zs b)
  obtain ⟨b3, off3, rfl, hlb3, hcell3⟩ := cyc_cell hf3.ints hp
  have B3 := B2.trans (hb3.mono B2.size)
  have H3 := hide (H2.out.below hb3 H2.out.lt.2)
  have hlast := hcell3 (len zs b - 1) (by omega)
  rw [← pv_orb] at hlast
  have hca3 : w3.cell? ⟨bb, off + a, none⟩ = some (.int .i64 (nx zs a : Int)) := (B3.cell (p := ⟨bb, off + a, none⟩) hbb).trans HCA.out
  have hg1 := H1.out.lt
  have hbase : w2.heap.size ≤ b3 := by
    have := hf3.2
    rcases this with ⟨h0, _⟩ | ⟨g', cap', cur', h0, hg', _⟩
    · cases h0
    · injection h0 with h0; injection h0 with h0; injection h0 with h0; omega
  have hgne : b3 ≠ g := by have := H2.out.lt.2; omega
  have hgne2 : bb ≠ g := by omega
  have ca := H3.out.cell ha
  have fa := H3.out.frozen a
  have HR := hide (H3.out.set a b)
  have BW := hide (B3.setCell (p := ⟨g, a, none⟩) hg1.1 (.int .i64 (b : Int)))
  have kl : (w3.setCell ⟨g, a, none⟩ (.int .i64 (b : Int))).cell? ⟨b3, off3 + (len zs b - 1), none⟩ = some (.int .i64 (pv zs b : Int)) := (cell_far _ _ _ _ hgne).trans hlast
  have kn : (w3.setCell ⟨g, a, none⟩ (.int .i64 (b : Int))).cell? ⟨bb, off + a, none⟩ = some (.int .i64 (nx zs a : Int)) := (cell_far _ _ _ _ hgne2).trans hca3
  obtain ⟨q, hq⟩ : ∃ q, pv zs b = q := ⟨_, rfl⟩
  obtain ⟨y, hy⟩ : ∃ y, nx zs a = y := ⟨_, rfl⟩
  obtain ⟨p, hpp⟩ : ∃ p, len zs b = p := ⟨_, rfl⟩
  have HQ := hide hq
  have HY := hide hy
  rw [hq] at kl hpl
  rw [hy] at kn
  rw [hpp] at kl hp hl ⊢
  clear hf3 hb3 hcell3 hlast hca3 hbase hg1 hq hy hpp B2 B3
  go_wp2_with fail
  generalize w3.setCell ⟨g, a, none⟩ (.int .i64 (b : Int)) = W at *
  have cq := HR.out.cell hpl
  have fq := HR.out.frozen q
  have kn2 : (W.setCell ⟨g, q, none⟩ (.int .i64 (y : Int))).cell? ⟨bb, off + a, none⟩ = some (.int .i64 (y : Int)) := (cell_far _ _ _ _ hgne2).trans kn
  have kl2 : (W.setCell ⟨g, q, none⟩ (.int .i64 (y : Int))).cell? ⟨b3, off3 + (p - 1), none⟩ = some (.int .i64 (q : Int)) := (cell_far _ _ _ _ hgne).trans kl
  have R2 := hide (HR.out.set q y)
  have BW2 := hide (BW.out.setCell (p := ⟨g, q, none⟩) H1.out.lt.1 (.int .i64 (y : Int)))
  have g1 : (0 : Int) ≤ (a : Int) := by omega
  have g2 : (a : Int) < (zs.length : Int) := by omega
  have g3 : (0 : Int) ≤ (q : Int) := by omega
  have g4 : (q : Int) < (zs.length : Int) := by omega
  obtain ⟨pm, hpm⟩ : ∃ pm, p - 1 = pm := ⟨_, rfl⟩
  rw [hpm] at kl kl2
  have i1 : IntKind.i64.wrap ((p : Int) - 1) = (pm : Int) := by rw [IntWalk.i64_in _ (by omega)]; omega
  have i2 : (0 : Int) ≤ (pm : Int) := by omega
  have i4 : (pm : Int) < (p : Int) := by omega
  clear hpm
  go_region_held3 (fun w' => w'.cell? ⟨bb, off + a, none⟩ = some (.int .i64 (y : Int)) ∧ w'.cell? ⟨b3, off3 + pm, none⟩ = some (.int .i64 (q : Int))) (first | exact ⟨kn, kl⟩ | exact ⟨kn2, kl2⟩) (fail)
  all_goals
    clear i1 i2 i4
    go_wp2
    go_quiet (fail)
    go_wp2
    go_ret2
    refine ⟨_, by rw [HY.out]; rfl, Fresh.draws ?_ nq, below_draws BW2.out nq⟩
    refine (R2.out.congr (G := RM.lkF (nx zs) (pv zs) a b) fun i _ => ?_).fresh
    unfold RM.lkF
    rw [HQ.out, HY.out]

end Go.Proofs.Ytpdimdpphbobiaa
