/-
  lead, Backward, ringAll.
-/
import Derived.Test.YtpdimdpphbobiaaRes
import Derived.Test.YtpdimdpphbobiaaSame
import Derived.Test.YtpdimdpphbobiaaLI
namespace Go.Proofs.Ytpdimdpphbobiaa
open Go.RowKit

set_option maxHeartbeats 400000 in
theorem lead_any (w : World) (N : Nat) (ad f g : Nat → Nat) (v : Value) (h : RingV w N ad f g numV) (hp : RM.Perm N f g) (hv : Cells w v N (fun i => .pointer (some ⟨ad i, 0, none⟩))) (hN : N * 8 ≤ 140737488351232) :
    Calls Try.prog 38 #[v] w fun e w' => ∃ v', e = .returned v' ∧ Fresh w.heap.size w' v' (nums g N) ∧ Below w.heap.size w w' := by
  obtain ⟨i0, hi, hz0, hz1, hz2⟩ := info_parts info_int
  obtain ⟨A, c, rfl, hnc, hcm, hc⟩ := hv
  have HC := hide hc
  have HH := hide h
  have HP := hide hp
  clear hc h hp hnc hcm
  go_enter Try.func38, Try.ntmps38
  go_wp2
  go_loopw [3, 9] (fun u i wr => ∃ k : Nat, k ≤ N ∧ i = .int .i64 k ∧ wr.ownsRow w.heap.size 2 1 u k (vals g k) ∧ Below w.heap.size w wr) (fun _ i _ => N - (intOf i).toNat)
  case atStart => exact ⟨0, Nat.zero_le _, rfl, World.ownsRow_made w #[] 0 (Nat.le_refl _) (Nat.zero_le _) rfl, (Below.refl _ _).alloc (Nat.le_refl _) _⟩
  case round =>
    obtain ⟨k, hk, rfl, hown, hbel⟩ := hrel
    by_cases hlt : k < N
    · obtain ⟨b, off, rfl, hb, hcell⟩ := HC.out (by omega)
      have hck : wr.cell? ⟨b, off + k, none⟩ = some (.pointer (some ⟨ad k, 0, none⟩)) := (hbel.cell (p := ⟨b, off + k, none⟩) hb).trans (hcell k hlt)
      have hr := HH.out.below hbel
      have hfk := HP.out.g_lt k hlt
      have c0 := hr.c0 hlt
      have c1 := hr.c1 hlt
      have c2 : wr.cell? ⟨ad (g k), 2, none⟩ = some (.iface 2 (.int .i64 (g k : Int))) := hr.c2 hfk
      have hsz := hbel.size
      clear hcell hr
      go_wp2_with (first
        | (go_at_call 30; refine (prev_set _ _ _ _ c0 c1).mono ?_; rintro e w' ⟨rfl, rfl⟩)
        | (go_at_call 28; refine (number_set _ _ _ c2).mono ?_; rintro e w' ⟨rfl, rfl⟩)
        | (at_builtin; refine wpList_append_own _ rfl _ _ 22 rfl w.heap.size 2 i0 (.int .i64 0) 1 8 Try.underlying22 hi hz0 hz1 hz2 rfl (by decide) _ _ _ rfl (hown.alloc _) ⟨wr.heap.size, 0, none⟩ 1 1 [.int .i64 (g k : Int)] rfl rfl (one_new _ _ _) (one_int _) ?c3 ?c4 ?c5 ?_))
      case c3 => unfold maxLen; omega
      case c4 => omega
      case c5 => simp; omega
      intro v' w1 hown' hgrow _
      have R := hide (own_next hown hbel (Nat.le_refl _) hown' hgrow)
      clear hown' hgrow hown hbel hck c0 c1 c2
      go_wp2
      go_roundw
      case rel => exact ⟨k + 1, by omega, by go_num, by rw [vals_succ]; exact R.out.1, R.out.2⟩
      case measure => simp [intOf]; omega
    · obtain rfl : k = N := by omega
      go_wp2
      go_ret
      exact ⟨_, rfl, fresh_vals hown, hbel⟩

theorem fresh_row {B : Nat} {w : World} {g n : Nat} {f : Nat → Nat} (h : w.rowIs g 2 n (fun j => .int .i64 (f j : Int))) (hB : B ≤ g) (hn : n ≤ maxLen) : Fresh B w (.slice (some ⟨g, 0, none⟩) n n) (nums f n) := by
  refine fresh_vals ⟨by rw [vals_len, Nat.mul_one], .inr ?_⟩
  obtain ⟨c, hc, hs, hv⟩ := h
  refine ⟨g, n, c, rfl, hB, hc, Nat.le_refl _, hn, by omega, ?_⟩
  apply List.ext_getElem?
  intro i
  rw [List.getElem?_take]
  rcases Nat.lt_or_ge i n with hi | hi
  · rw [if_pos (by omega), Array.getElem?_toList, hv i hi]
    unfold vals
    rw [List.getElem?_map, List.getElem?_range hi]
    rfl
  · rw [if_neg (by omega), List.getElem?_eq_none (by rw [vals_len]; exact hi)]

/-- What is known of the elements that are followed, behind k elements. -/
def backTo (zs : List Int) (k j : Nat) : Nat := if pv zs j < k then pv zs j else 0
theorem back_step {zs : List Int} (hok : RingsOk zs) {k : Nat} (hk : k < zs.length) {w : World} {g : Nat} (h : w.rowIs g 2 zs.length (fun j => .int .i64 (backTo zs k j : Int))) :
    (w.setCell ⟨g, nx zs k, none⟩ (.int .i64 (k : Int))).rowIs g 2 zs.length (fun j => .int .i64 (backTo zs (k + 1) j : Int)) := by
  refine (h.set (nx zs k) _).congr fun j hj => ?_
  by_cases e : j = nx zs k
  · subst e
    rw [if_pos rfl]
    unfold backTo
    rw [hok.perm.gf k hk, if_pos (by omega)]
  · rw [if_neg e]
    have hne : pv zs j ≠ k := fun e2 => e (by rw [← e2]; exact (hok.perm.fg j hj).symm)
    unfold backTo
    by_cases h1 : pv zs j < k
    · rw [if_pos h1, if_pos (by omega)]
    · rw [if_neg h1, if_neg (by omega)]
theorem back_all {zs : List Int} (hok : RingsOk zs) {w : World} {g : Nat} (h : w.rowIs g 2 zs.length (fun j => .int .i64 (backTo zs zs.length j : Int))) : w.rowIs g 2 zs.length (fun j => .int .i64 (pv zs j : Int)) :=
  h.congr fun j hj => by unfold backTo; rw [if_pos (hok.perm.g_lt j hj)]

set_option maxHeartbeats 1000000 in
theorem backward_any (v : Value) (zs : List Int) (w : World) (hv : Ints w v zs) (hN : zs.length * 8 ≤ 140737488351232) (hok : RingsOk zs) :
    Calls Try.prog 15 #[v] w fun e w' => ∃ v', e = .returned v' ∧ Fresh w.heap.size w' v' (nums (pv zs) zs.length) ∧ Below w.heap.size w w' := by
  obtain ⟨A, c, rfl⟩ := hv.form rfl
  have HV := hide hv
  have HO := hide hok
  have hmk := run_make_row' (P := Try.prog) 22 2 (.int .i64 0) 8 Try.underlying22 info_int rfl .i64 .i64 zs.length (by omega) (by omega)
  clear hv hok
  go_enter Try.func15, Try.ntmps15
  go_wp2
  go_loopw [4] (fun i wr => ∃ k : Nat, k ≤ zs.length ∧ i = .int .i64 k ∧ Hid (wr.rowIs w.heap.size 2 zs.length (fun j => .int .i64 (backTo zs k j : Int))) ∧ Below w.heap.size w wr) (fun i _ => zs.length - (intOf i).toNat)
  case atStart =>
    refine ⟨0, Nat.zero_le _, rfl, (World.rowIs_made w (.int .i64 0) zs.length 2).congr (fun j _ => ?_), (Below.refl _ _).alloc (Nat.le_refl _) _⟩
    unfold backTo; simp
  case round =>
    obtain ⟨k, hk, rfl, hrow, hbel⟩ := hrel
    by_cases hlt : k < zs.length
    · obtain ⟨bb, off, c, e⟩ := ints_addr HV.out (by omega)
      cases e
      have hck := ring_cell (HV.out.below hbel) HO.out hlt
      have hnl := HO.out.nx_lt hlt
      have hc0 := hrow.out.cell hnl
      have hf0 := hrow.out.frozen (nx zs k)
      have R := hide (back_step HO.out hlt hrow.out)
      have RB := hide (hbel.setCell (p := ⟨w.heap.size, nx zs k, none⟩) (Nat.le_refl _) (.int .i64 (k : Int)))
      obtain ⟨y, hy⟩ : ∃ y, nx zs k = y := ⟨_, rfl⟩
      rw [hy] at hck hnl hc0 hf0 R RB
      have g1 : (0 : Int) ≤ (k : Int) := by omega
      have g2 : (k : Int) < (zs.length : Int) := by omega
      have g3 : (0 : Int) ≤ (y : Int) := by omega
      have g4 : (y : Int) < (zs.length : Int) := by omega
      clear hrow hbel hy
      go_wp2
      go_roundw
      case rel => exact ⟨k + 1, by omega, by go_num, R, RB.out⟩
      case measure => simp [intOf]; omega
    · obtain rfl : k = zs.length := by omega
      have R := hide (fresh_row (B := w.heap.size) (back_all HO.out hrow.out) (Nat.le_refl _) (by unfold maxLen; omega))
      clear hrow
      go_wp2
      go_ret
      exact ⟨_, rfl, R.out, hbel⟩

set_option maxHeartbeats 1000000 in
theorem all_true {B1 B2 : Nat} (u1 u2 : Value) (xss : List (List Int)) (w : World) (h1 : Res B1 w u1 xss) (h2 : Res B2 w u2 xss) (hN : xss.length ≤ 4611686018427387904) (hx : ∀ (j : Nat) (x : List Int), xss[j]? = some x → x.length ≤ 4611686018427387904) :
    Calls Try.prog 13 #[u1, u2] w fun e w' => e = .returned (.bool true) ∧ Below w.heap.size w w' := by
  obtain ⟨g1, c1, rfl, hg1, _, _⟩ := h1.form rfl
  obtain ⟨g2, c2, rfl, hg2, _, _⟩ := h2.form rfl
  have H1 := hide h1
  have H2 := hide h2
  have HX := hide hx
  have hnn : ((xss.length : Int) != (xss.length : Int)) = false := by simp
  clear h1 h2 hx
  go_enter Try.func13, Try.ntmps13
  go_wp2
  go_loopw [5] (fun i wr => ∃ k : Nat, k ≤ xss.length ∧ i = .int .i64 k ∧ Below w.heap.size w wr) (fun i _ => xss.length - (intOf i).toNat)
  case atStart => exact ⟨0, Nat.zero_le _, rfl, Below.refl _ _⟩
  case round =>
    obtain ⟨k, hk, rfl, hbel⟩ := hrel
    by_cases hlt : k < xss.length
    · have hj : xss[k]? = some xss[k] := List.getElem?_eq_getElem hlt
      obtain ⟨s1, d1, f1⟩ := (H1.out.below hbel).get hj
      obtain ⟨s2, d2, f2⟩ := (H2.out.below hbel).get hj
      have K1 := hide (li_of (w0 := wr) fun u hu => same_true s1 s2 xss[k] u (f1.ints.below hu) (f2.ints.below hu) (HX.out k _ hj))
      have l1 := li_cell d1 (Nat.lt_of_lt_of_le hg1 hbel.size)
      have l2 := li_cell d2 (Nat.lt_of_lt_of_le hg2 hbel.size)
      have e1 : (0 : Int) ≤ (k : Int) := by omega
      have e2 : (k : Int) < (xss.length : Int) := by omega
      have HB := hide hbel
      clear hj d1 d2 f1 f2 hbel
      go_wp2
      refine wp_region_li wr (by kernel_rfl) (by kernel_rfl) (Below.refl _ _) ?_
      repeat (go_big_quiet_step ((go_at_call 10; exact K1.out _)))
      refine wpQuiet_nil ?_
      rintro _ ⟨u, rfl⟩
      go_wp2
      go_roundw
      case rel => exact ⟨k + 1, by omega, by go_num, HB.out.trans (u.bel.mono HB.out.size)⟩
      case measure => simp [intOf]; omega
    · go_wp2
      go_ret
      exact ⟨rfl, hbel⟩

end Go.Proofs.Ytpdimdpphbobiaa
