/-
  Link and Unlink of rings in memory.
-/
import Derived.Test.YtpdimdpphbobiaaNums
namespace Go.Proofs.Ytpdimdpphbobiaa
open Go.RowKit

/-! ### A store into an element -/

theorem Blk.set0 {w : World} {g h : Nat} {t : TypeId} {x y z : Value} (hb : Blk w g t #[x, y, z]) (v : Value) : Blk (w.setCell ⟨h, 0, none⟩ v) g t #[if g = h then v else x, y, z] := by
  by_cases e : g = h
  · subst e
    have := hb.set_ 0 v
    rw [if_pos rfl]
    simpa using this
  · rw [if_neg e]
    exact hb.far (p := ⟨h, 0, none⟩) e v
theorem Blk.set1 {w : World} {g h : Nat} {t : TypeId} {x y z : Value} (hb : Blk w g t #[x, y, z]) (v : Value) : Blk (w.setCell ⟨h, 1, none⟩ v) g t #[x, if g = h then v else y, z] := by
  by_cases e : g = h
  · subst e
    have := hb.set_ 1 v
    rw [if_pos rfl]
    simpa using this
  · rw [if_neg e]
    exact hb.far (p := ⟨h, 1, none⟩) e v

/-- The world behind Link's four stores. -/
def linkW (w : World) (r s n p : Nat) : World :=
  (((w.setCell ⟨r, 0, none⟩ (.pointer (some ⟨s, 0, none⟩))).setCell ⟨s, 1, none⟩ (.pointer (some ⟨r, 0, none⟩))).setCell ⟨n, 1, none⟩ (.pointer (some ⟨p, 0, none⟩))).setCell ⟨p, 0, none⟩ (.pointer (some ⟨n, 0, none⟩))

theorem link_ring {w : World} {N : Nat} {ad f g : Nat → Nat} {V : Nat → Value} (h : RingV w N ad f g V) (hp : RM.Perm N f g) {a b : Nat} (ha : a < N) (hb : b < N) :
    RingV (linkW w (ad a) (ad b) (ad (f a)) (ad (g b))) N ad (RM.lkF f g a b) (RM.lkG f g a b) V := by
  refine ⟨fun i hi => ?_, h.inj⟩
  have h1 := ((((h.blk i hi).set0 (h := ad a) (.pointer (some ⟨ad b, 0, none⟩))).set1 (h := ad b) (.pointer (some ⟨ad a, 0, none⟩))).set1 (h := ad (f a)) (.pointer (some ⟨ad (g b), 0, none⟩))).set0 (h := ad (g b)) (.pointer (some ⟨ad (f a), 0, none⟩))
  have e : ∀ j, j < N → (ad i = ad j ↔ i = j) := fun j hj => ⟨fun e => h.inj i j hi hj e, fun e => by rw [e]⟩
  have hfa := hp.f_lt a ha
  have hgb := hp.g_lt b hb
  simp only [e a ha, e b hb, e _ hfa, e _ hgb] at h1
  unfold RM.lkF RM.lkG
  have e0 : (.pointer (some ⟨ad (if i = g b then f a else if i = a then b else f i), 0, none⟩) : Value) = if i = g b then .pointer (some ⟨ad (f a), 0, none⟩) else if i = a then .pointer (some ⟨ad b, 0, none⟩) else .pointer (some ⟨ad (f i), 0, none⟩) := by
    split
    · rfl
    · split <;> rfl
  have e1 : (.pointer (some ⟨ad (if i = f a then g b else if i = b then a else g i), 0, none⟩) : Value) = if i = f a then .pointer (some ⟨ad (g b), 0, none⟩) else if i = b then .pointer (some ⟨ad a, 0, none⟩) else .pointer (some ⟨ad (g i), 0, none⟩) := by
    split
    · rfl
    · split <;> rfl
  rw [e0, e1]
  exact h1

theorem link_below {w w0 : World} {B r s n p : Nat} (h : Below B w0 w) (hr : B ≤ r) (hs : B ≤ s) (hn : B ≤ n) (hp : B ≤ p) : Below B w0 (linkW w r s n p) :=
  (((h.setCell (p := ⟨r, 0, none⟩) hr _).setCell (p := ⟨s, 1, none⟩) hs _).setCell (p := ⟨n, 1, none⟩) hn _).setCell (p := ⟨p, 0, none⟩) hp _

set_option maxHeartbeats 1000000 in
theorem link_any (w : World) (N : Nat) (ad f g : Nat → Nat) (V : Nat → Value) (a b : Nat) (h : RingV w N ad f g V) (hp : RM.Perm N f g) (ha : a < N) (hb : b < N) :
    Calls Try.prog 34 #[.pointer (some ⟨ad a, 0, none⟩), .pointer (some ⟨ad b, 0, none⟩)] w fun e w' => e = .returned (.pointer (some ⟨ad (f a), 0, none⟩)) ∧ linkW w (ad a) (ad b) (ad (f a)) (ad (g b)) = w' := by
  have c0 := h.c0 ha
  have d0 := h.c0 hb
  have d1 := h.c1 hb
  have hfa := hp.f_lt a ha
  have hgb := hp.g_lt b hb
  obtain ⟨r, hr⟩ : ∃ r, ad a = r := ⟨_, rfl⟩
  obtain ⟨s, hs⟩ : ∃ s, ad b = s := ⟨_, rfl⟩
  obtain ⟨n, hn⟩ : ∃ n, ad (f a) = n := ⟨_, rfl⟩
  obtain ⟨p, hpp⟩ : ∃ p, ad (g b) = p := ⟨_, rfl⟩
  have ba := h.blk a ha
  have bb := h.blk b hb
  have bn := h.blk _ hfa
  have bp := h.blk _ hgb
  rw [hr] at c0 ba
  rw [hs] at d0 d1 bb
  rw [hn] at c0 bn
  rw [hpp] at d1 bp
  rw [hr, hs, hn, hpp]
  have f1 : w.frozen? ⟨r, 0, none⟩ = false := ba.frozen 0
  have bb1 := bb.set0 (h := r) (.pointer (some ⟨s, 0, none⟩))
  have bn1 := (bn.set0 (h := r) (.pointer (some ⟨s, 0, none⟩))).set1 (h := s) (.pointer (some ⟨r, 0, none⟩))
  have bp1 := ((bp.set0 (h := r) (.pointer (some ⟨s, 0, none⟩))).set1 (h := s) (.pointer (some ⟨r, 0, none⟩))).set1 (h := n) (.pointer (some ⟨p, 0, none⟩))
  obtain ⟨x2, c2⟩ : ∃ x, (w.setCell ⟨r, 0, none⟩ (.pointer (some ⟨s, 0, none⟩))).cell? ⟨s, 1, none⟩ = some x := ⟨_, bb1.cell 1⟩
  have f2 : (w.setCell ⟨r, 0, none⟩ (.pointer (some ⟨s, 0, none⟩))).frozen? ⟨s, 1, none⟩ = false := bb1.frozen 1
  obtain ⟨x3, c3⟩ : ∃ x, ((w.setCell ⟨r, 0, none⟩ (.pointer (some ⟨s, 0, none⟩))).setCell ⟨s, 1, none⟩ (.pointer (some ⟨r, 0, none⟩))).cell? ⟨n, 1, none⟩ = some x := ⟨_, bn1.cell 1⟩
  have f3 : ((w.setCell ⟨r, 0, none⟩ (.pointer (some ⟨s, 0, none⟩))).setCell ⟨s, 1, none⟩ (.pointer (some ⟨r, 0, none⟩))).frozen? ⟨n, 1, none⟩ = false := bn1.frozen 1
  obtain ⟨x4, c4⟩ : ∃ x, (((w.setCell ⟨r, 0, none⟩ (.pointer (some ⟨s, 0, none⟩))).setCell ⟨s, 1, none⟩ (.pointer (some ⟨r, 0, none⟩))).setCell ⟨n, 1, none⟩ (.pointer (some ⟨p, 0, none⟩))).cell? ⟨p, 0, none⟩ = some x := ⟨_, bp1.cell 0⟩
  have f4 : (((w.setCell ⟨r, 0, none⟩ (.pointer (some ⟨s, 0, none⟩))).setCell ⟨s, 1, none⟩ (.pointer (some ⟨r, 0, none⟩))).setCell ⟨n, 1, none⟩ (.pointer (some ⟨p, 0, none⟩))).frozen? ⟨p, 0, none⟩ = false := bp1.frozen 0
  clear hr hs hn hpp ba bb bn bp bb1 bn1 bp1 h hp
  go_enter Try.func34, Try.ntmps34
  go_wp2_with (first
    | (go_at_call 29; refine (next_set _ _ _ c0).mono ?_; rintro e w' ⟨rfl, rfl⟩)
    | (go_at_call 30; refine (prev_set _ _ _ _ d0 d1).mono ?_; rintro e w' ⟨rfl, rfl⟩))
  go_ret
  exact ⟨rfl, rfl⟩

theorem link_nil (w : World) (r n : Nat) (c0 : w.cell? ⟨r, 0, none⟩ = some (.pointer (some ⟨n, 0, none⟩))) :
    Calls Try.prog 34 #[.pointer (some ⟨r, 0, none⟩), .pointer none] w fun e w' => e = .returned (.pointer (some ⟨n, 0, none⟩)) ∧ w = w' := by
  go_enter Try.func34, Try.ntmps34
  go_wp2_with (go_at_call 29; refine (next_set _ _ _ c0).mono ?_; rintro e w' ⟨rfl, rfl⟩)
  go_ret
  exact ⟨rfl, rfl⟩

/-- Link, told by lists. -/
theorem link_zs (B : Nat) (w : World) (zs : List Int) (ad : Nat → Nat) (V : Nat → Value) (a b : Nat) (h : RingV w zs.length ad (nx zs) (pv zs) V) (hok : RingsOk zs) (ha : a < zs.length) (hb : b < zs.length) (hB : ∀ k, k < zs.length → B ≤ ad k) :
    Calls Try.prog 34 #[.pointer (some ⟨ad a, 0, none⟩), .pointer (some ⟨ad b, 0, none⟩)] w fun e w' => e = .returned (.pointer (some ⟨ad (nx zs a), 0, none⟩)) ∧ RingV w' zs.length ad (nx (linkI zs a b)) (pv (linkI zs a b)) V ∧ Below B w w' ∧ w'.heap.size = w.heap.size := by
  refine (link_any w zs.length ad (nx zs) (pv zs) V a b h hok.perm ha hb).mono ?_
  rintro e w' ⟨rfl, rfl⟩
  refine ⟨rfl, (link_ring h hok.perm ha hb).congr (fun i hi => nx_link hi) (fun i hi => pv_link hok ha hb hi), link_below (Below.refl _ _) (hB a ha) (hB b hb) (hB _ (hok.nx_lt ha)) (hB _ (hok.perm.g_lt b hb)), ?_⟩
  unfold linkW
  simp [World.setCell]

theorem unlink_none (w : World) (r : Nat) (n : Int) (hn : n ≤ 0) :
    Calls Try.prog 36 #[.pointer (some ⟨r, 0, none⟩), .int .i64 n] w fun e w' => e = .returned (.pointer none) ∧ w = w' := by
  go_enter Try.func36, Try.ntmps36
  go_wp2
  go_ret
  exact ⟨rfl, rfl⟩

set_option maxHeartbeats 400000 in
theorem unlink_zs (B : Nat) (w : World) (zs : List Int) (ad : Nat → Nat) (V : Nat → Value) (a : Nat) (n : Int) (h : RingV w zs.length ad (nx zs) (pv zs) V) (hok : RingsOk zs) (ha : a < zs.length) (hn : 0 < n) (hn2 : n ≤ 4000000000000000000) (hB : ∀ k, k < zs.length → B ≤ ad k) :
    Calls Try.prog 36 #[.pointer (some ⟨ad a, 0, none⟩), .int .i64 n] w fun e w' => e = .returned (.pointer (some ⟨ad (nx zs a), 0, none⟩)) ∧ RingV w' zs.length ad (nx (linkI zs a (mv zs a (n + 1)))) (pv (linkI zs a (mv zs a (n + 1)))) V ∧ Below B w w' ∧ w'.heap.size = w.heap.size := by
  have HH := hide h
  have HO := hide hok
  have HB := hide hB
  clear h hok hB
  go_enter Try.func36, Try.ntmps36
  go_wp2_with fail
  refine (move_any _ zs ad V a (n + 1) HH.out HO.out ha (by omega)).mono ?_
  rintro e w1 ⟨rfl, rfl⟩
  go_wp2_with fail
  refine (link_zs B _ zs ad V a (mv zs a (n + 1)) HH.out HO.out ha (mv_lt HO.out ha _) HB.out).mono ?_
  rintro e w2 ⟨rfl, h2⟩
  have H2 := hide h2
  clear h2
  go_wp2
  go_ret
  exact ⟨rfl, H2.out⟩

end Go.Proofs.Ytpdimdpphbobiaa
