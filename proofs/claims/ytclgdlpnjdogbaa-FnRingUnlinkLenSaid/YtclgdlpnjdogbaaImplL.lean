/-
  The thin package's element, RingLink, RingUnlink.
-/
import Derived.Test.YtclgdlpnjdogbaaLink
import Derived.Test.YtclgdlpnjdogbaaBuild
import Derived.Test.YtclgdlpnjdogbaaFollow
import Derived.Deep.RegionWith
namespace Go.Proofs.Ytclgdlpnjdogbaa
open Go.RowKit

theorem element_none (v : Value) (k : Int) (w : World) (hk : k < 0) :
    Calls Try.prog 35 #[v, .int .i64 k] w fun e w' => e = .returned (.pointer none) ∧ w = w' := by
  go_enter Try.func35, Try.ntmps35
  go_wp2
  go_ret
  exact ⟨rfl, rfl⟩

theorem element_some (L n k g : Nat) (w : World) (hk : k < n) (hc : w.cell? ⟨L, k, none⟩ = some (.pointer (some ⟨g, 0, none⟩))) :
    Calls Try.prog 35 #[.slice (some ⟨L, 0, none⟩) n n, .int .i64 k] w fun e w' => e = .returned (.pointer (some ⟨g, 0, none⟩)) ∧ w = w' := by
  go_enter Try.func35, Try.ntmps35
  go_wp2
  go_ret
  exact ⟨rfl, rfl⟩

/-- The rings stand in memory, behind a list of pointers at block L; nothing below L has turned since w0. -/
structure Stand (w0 : World) (L : Nat) (ad : Nat → Nat) (zs : List Int) (w : World) : Prop where
  ring : RingV w zs.length ad (nx zs) (pv zs) numV
  gt : ∀ k, k < zs.length → L + 1 ≤ ad k
  row : w.rowIs L 35 zs.length (fun k => .pointer (some ⟨ad k, 0, none⟩))
  bel : Below L w0 w
  size : L + 1 ≤ w.heap.size

section
variable {w0 w w' : World} {L : Nat} {ad : Nat → Nat} {zs : List Int}
theorem Stand.drew (h : Stand w0 L ad zs w) : Stand w0 L ad zs w.drew := ⟨⟨h.ring.blk, h.ring.inj⟩, h.gt, h.row, h.bel.drew, h.size⟩
theorem Stand.list (h : Stand w0 L ad zs w) (hn : zs.length ≤ maxLen) : Cells w (.slice (some ⟨L, 0, none⟩) zs.length zs.length) zs.length (fun k => .pointer (some ⟨ad k, 0, none⟩)) := cells_of_row h.row hn
/-- Behind a call that only makes memory. -/
theorem Stand.below (h : Stand w0 L ad zs w) (hb : Below w.heap.size w w') : Stand w0 L ad zs w' :=
  ⟨h.ring.below hb, h.gt, h.row.of_block (hb.block L h.row.lt), h.bel.trans (hb.mono (by have := h.size; omega)), Nat.le_trans h.size hb.size⟩
theorem Stand.link {a b : Nat} (h : Stand w0 L ad zs w) (hr : RingV w' zs.length ad (nx (linkI zs a b)) (pv (linkI zs a b)) numV) (hb : Below (L + 1) w w') : Stand w0 L ad (linkI zs a b) w' := by
  refine ⟨by rw [linkI_len]; exact hr, by rw [linkI_len]; exact h.gt, ?_, h.bel.trans (hb.mono (by omega)), Nat.le_trans h.size hb.size⟩
  rw [linkI_len]
  exact h.row.of_block (hb.block L (by omega))
end

set_option maxHeartbeats 1000000 in
theorem ringLink_any (v : Value) (zs : List Int) (a b : Nat) (w : World) (hv : Ints w v zs) (hN : zs.length * 8 ≤ 140737488351232) (hok : RingsOk zs) (ha : a < zs.length) (hb : b < zs.length) :
    Calls Try.prog 19 #[v, .int .i64 a, .int .i64 b] w fun e w' => ∃ v', e = .returned (.tuple #[v', .int .i64 (nx zs a)]) ∧ Fresh w.heap.size w' v' (linkI zs a b) ∧ Below w.heap.size w w' := by
  have HV := hide hv
  have HO := hide hok
  clear hv hok
  go_enter Try.func19, Try.ntmps19
  go_wp2_with fail
  refine (build_any _ zs _ HV.out hN HO.out).mono ?_
  rintro e w1 ⟨rfl, ad, hr, hgt, hrow, hbel⟩
  have hst : Stand w w.heap.size ad zs w1 := ⟨hr, fun k hk => hgt k hk, hrow, hbel, hrow.lt⟩
  have hca := hrow.cell ha
  have hcb := hrow.cell hb
  have HS := hide hst
  have HSD := hide hst.drew
  have KE : Hid (∀ wx, wx.cell? ⟨w.heap.size, b, none⟩ = some (.pointer (some ⟨ad b, 0, none⟩)) → Calls Try.prog 35 #[.slice (some ⟨w.heap.size, 0, none⟩) zs.length zs.length, .int .i64 b] wx fun e w' => e = .returned (.pointer (some ⟨ad b, 0, none⟩)) ∧ wx = w') := fun wx hc => element_some _ _ b _ wx hb hc
  have g1 : (0 : Int) ≤ (a : Int) := by omega
  have g2 : (a : Int) < (zs.length : Int) := by omega
  clear hr hgt hrow hbel hst
  go_wp2_with fail
  go_region_with (first
    | (go_at_call 35; refine (KE.out _ ?_).mono ?_; exact hcb; rintro e w2 ⟨rfl, rfl⟩)
    | (go_at_call 34; refine (link_zs (w.heap.size + 1) _ zs ad numV a b HSD.out.ring HO.out ha hb HSD.out.gt).mono ?_; rintro e w2 ⟨rfl, hr2, hb2, _⟩))
  all_goals
    have hst2 := HSD.out.link hr2 hb2
    have hln : zs.length ≤ maxLen := by unfold maxLen; omega
    have HL := hide (hst2.list (by rw [linkI_len]; exact hln))
    have HR2 := hide hst2.ring
    have c2 := hr2.c2 (HO.out.nx_lt ha)
    unfold numV at c2
    rw [linkI_len] at HL HR2
    have HS2 := hide hst2
    clear hr2 hb2 hst2
    go_wp2_with fail
    refine (follow_any _ zs.length ad (nx (linkI zs a b)) (pv (linkI zs a b)) _ HR2.out (by have := (linkI_ok HO.out ha hb).perm; rw [linkI_len] at this; exact this) HL.out hN).mono ?_
    rintro e w3 ⟨v3, rfl, hf3, hb3⟩
    have e3 : nums (nx (linkI zs a b)) zs.length = linkI zs a b := by have := zs_nums (linkI_ok HO.out ha hb); rw [linkI_len] at this; exact this
    rw [e3] at hf3
    obtain ⟨A3, c3, rfl⟩ := hf3.form (linkI_len zs a b)
    have c2' := (hb3.cell (p := ⟨ad (nx zs a), 2, none⟩) (HS2.out.ring.blk (nx zs a) (by rw [linkI_len]; exact HO.out.nx_lt ha)).lt).trans c2
    have B2 := HS2.out.bel
    have HF3 := hide hf3
    clear e3 hf3 c2
    go_wp2_with (go_at_call 30; refine (number_set _ _ _ c2').mono ?_; rintro e w4 ⟨rfl, rfl⟩)
    go_ret2
    have hz := HS2.out.size
    exact ⟨_, rfl, HF3.out.mono (by omega), B2.trans (hb3.mono (by omega))⟩

end Go.Proofs.Ytclgdlpnjdogbaa
