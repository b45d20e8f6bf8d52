/-
  RingLink with an empty ring, RingUnlink.
-/
import Derived.Test.YtclgdlpnjdogbaaImplL
namespace Go.Proofs.Ytclgdlpnjdogbaa
open Go.RowKit

/-- follow of rings that stand. -/
theorem follow_stand {w0 : World} {L : Nat} {ad : Nat → Nat} {zs : List Int} {w : World} (h : Stand w0 L ad zs w) (hok : RingsOk zs) (hN : zs.length * 8 ≤ 140737488351232) :
    Calls Try.prog 36 #[.slice (some ⟨L, 0, none⟩) zs.length zs.length] w fun e w' => ∃ v', e = .returned v' ∧ Fresh w.heap.size w' v' zs ∧ Below w.heap.size w w' := by
  have := follow_any w zs.length ad (nx zs) (pv zs) _ h.ring hok.perm (h.list (by unfold maxLen; omega)) hN
  rwa [zs_nums hok] at this

/-- .. and the number of an element behind it. -/
theorem Stand.num {w0 : World} {L : Nat} {ad : Nat → Nat} {zs : List Int} {w : World} (h : Stand w0 L ad zs w) {k : Nat} (hk : k < zs.length) : w.cell? ⟨ad k, 2, none⟩ = some (.iface 2 (.int .i64 (k : Int))) := h.ring.c2 hk

theorem stand_build {w w1 : World} {zs : List Int} {ad : Nat → Nat} (hr : RingV w1 zs.length ad (nx zs) (pv zs) numV) (hgt : ∀ k, k < zs.length → w.heap.size < ad k) (hrow : w1.rowIs w.heap.size 35 zs.length (fun k => .pointer (some ⟨ad k, 0, none⟩))) (hbel : Below w.heap.size w w1) :
    Stand w w.heap.size ad zs w1 := ⟨hr, hgt, hrow, hbel, hrow.lt⟩

set_option maxHeartbeats 1000000 in
theorem ringLink_none (v : Value) (zs : List Int) (a : Nat) (w : World) (hv : Ints w v zs) (hN : zs.length * 8 ≤ 140737488351232) (hok : RingsOk zs) (ha : a < zs.length) :
    Calls Try.prog 19 #[v, .int .i64 a, .int .i64 (-1)] w fun e w' => ∃ v', e = .returned (.tuple #[v', .int .i64 (nx zs a)]) ∧ Fresh w.heap.size w' v' zs ∧ Below w.heap.size w w' := by
  have HV := hide hv
  have HO := hide hok
  clear hv hok
  go_enter Try.func19, Try.ntmps19
  go_wp2_with fail
  refine (build_any _ zs _ HV.out hN HO.out).mono ?_
  rintro e w1 ⟨rfl, ad, hr, hgt, hrow, hbel⟩
  have hst := stand_build hr hgt hrow hbel
  have hca := hrow.cell ha
  have c0 := hr.c0 ha
  have HSD := hide hst.drew
  have g1 : (0 : Int) ≤ (a : Int) := by omega
  have g2 : (a : Int) < (zs.length : Int) := by omega
  clear hr hgt hrow hbel hst
  go_wp2_with fail
  go_region_with (first
    | (go_at_call 35; refine (element_none _ _ _ (by omega)).mono ?_; rintro e w2 ⟨rfl, rfl⟩)
    | (go_at_call 34; refine (link_nil _ _ _ (by exact c0)).mono ?_; rintro e w2 ⟨rfl, rfl⟩))
  all_goals
    go_wp2_with fail
    refine (follow_stand HSD.out HO.out hN).mono ?_
    rintro e w3 ⟨v3, rfl, hf3, hb3⟩
    obtain ⟨A3, c3, rfl⟩ := hf3.form rfl
    have hs3 := HSD.out.below hb3
    have c2' := hs3.num (HO.out.nx_lt ha)
    have HS3 := hide hs3
    have HF3 := hide hf3
    clear hf3 hs3 hb3
    go_wp2_with (go_at_call 30; refine (number_set _ _ _ c2').mono ?_; rintro e w4 ⟨rfl, rfl⟩)
    go_ret2
    have hz := HSD.out.size
    exact ⟨_, rfl, HF3.out.mono (by omega), HS3.out.bel⟩

set_option maxHeartbeats 1000000 in
theorem ringUnlink_any (v : Value) (zs : List Int) (a : Nat) (n : Int) (w : World) (hv : Ints w v zs) (hN : zs.length * 8 ≤ 140737488351232) (hok : RingsOk zs) (ha : a < zs.length) (hn : 0 < n) (hn2 : n ≤ 100000) :
    Calls Try.prog 24 #[v, .int .i64 a, .int .i64 n] w fun e w' => ∃ v', e = .returned (.tuple #[v', .int .i64 (nx zs a)]) ∧ Fresh w.heap.size w' v' (linkI zs a (mv zs a (n + 1))) ∧ Below w.heap.size w w' := by
  have HV := hide hv
  have HO := hide hok
  have hb := mv_lt hok ha (n + 1)
  clear hv hok
  go_enter Try.func24, Try.ntmps24
  go_wp2_with fail
  refine (build_any _ zs _ HV.out hN HO.out).mono ?_
  rintro e w1 ⟨rfl, ad, hr, hgt, hrow, hbel⟩
  have hst := stand_build hr hgt hrow hbel
  have hca := hrow.cell ha
  have HS := hide hst
  clear hr hgt hrow hbel hst
  go_wp2_with fail
  refine (unlink_zs (w.heap.size + 1) _ zs ad numV a n HS.out.ring HO.out ha hn (by omega) HS.out.gt).mono ?_
  rintro e w2 ⟨rfl, hr2, hb2, _⟩
  have hst2 := HS.out.link hr2 hb2
  have HS2 := hide hst2
  have hok2 := hide (linkI_ok HO.out ha hb)
  generalize hzz : linkI zs a (mv zs a (n + 1)) = zs2 at HS2 hok2
  have hl2 : zs2.length = zs.length := by rw [← hzz]; exact linkI_len _ _ _
  have HZ := hide hzz
  have HL2 := hide hl2
  clear hr2 hb2 hst2 hzz
  rw [← hl2]
  clear hl2
  go_wp2_with fail
  refine (follow_stand HS2.out hok2.out (by rw [HL2.out]; exact hN)).mono ?_
  rintro e w3 ⟨v3, rfl, hf3, hb3⟩
  obtain ⟨A3, c3, rfl⟩ := hf3.form rfl
  have hs3 := HS2.out.below hb3
  have c2' := hs3.num (k := nx zs a) (by rw [HL2.out]; exact HO.out.nx_lt ha)
  have HS3 := hide hs3
  have HF3 := hide hf3
  clear hf3 hs3 hb3
  go_wp2_with (go_at_call 30; refine (number_set _ _ _ c2').mono ?_; rintro e w4 ⟨rfl, rfl⟩)
  go_ret2
  have hz := HS2.out.size
  rw [HZ.out]
  exact ⟨_, rfl, HF3.out.mono (by omega), HS3.out.bel⟩

set_option maxHeartbeats 1000000 in
theorem ringUnlink_none (v : Value) (zs : List Int) (a : Nat) (n : Int) (w : World) (hv : Ints w v zs) (hN : zs.length * 8 ≤ 140737488351232) (hok : RingsOk zs) (ha : a < zs.length) (hn : n ≤ 0) :
    Calls Try.prog 24 #[v, .int .i64 a, .int .i64 n] w fun e w' => ∃ v', e = .returned (.tuple #[v', .int .i64 (-1)]) ∧ Fresh w.heap.size w' v' zs ∧ Below w.heap.size w w' := by
  have HV := hide hv
  have HO := hide hok
  clear hv hok
  go_enter Try.func24, Try.ntmps24
  go_wp2_with fail
  refine (build_any _ zs _ HV.out hN HO.out).mono ?_
  rintro e w1 ⟨rfl, ad, hr, hgt, hrow, hbel⟩
  have hst := stand_build hr hgt hrow hbel
  have hca := hrow.cell ha
  have HS := hide hst
  clear hr hgt hrow hbel hst
  go_wp2_with fail
  refine (unlink_none _ _ n hn).mono ?_
  rintro e w2 ⟨rfl, rfl⟩
  go_wp2_with fail
  refine (follow_stand HS.out HO.out hN).mono ?_
  rintro e w3 ⟨v3, rfl, hf3, hb3⟩
  obtain ⟨A3, c3, rfl⟩ := hf3.form rfl
  have HS3 := hide (HS.out.below hb3)
  have HF3 := hide hf3
  clear hf3 hb3
  go_wp2_with (go_at_call 30; refine (number_nil _).mono ?_; rintro e w4 ⟨rfl, rfl⟩)
  go_ret2
  have hz := HS.out.size
  exact ⟨_, rfl, HF3.out.mono (by omega), HS3.out.bel⟩

end Go.Proofs.Ytclgdlpnjdogbaa
