/-
  The reference's Linked of one ring.
-/
import Derived.Test.YtpdimdpphbobiaaSpecL2
namespace Go.Proofs.Ytpdimdpphbobiaa
open Go.RowKit

theorem place_of {zs : List Int} {a b : Nat} (hok : RingsOk zs) (ha : a < zs.length) (h : inB zs a b = true) :
    ∃ m, 0 < m ∧ m ≤ len zs a ∧ orb zs a m = b ∧ ∀ j, 0 < j → j < m → orb zs a j ≠ b := by
  obtain ⟨m0, hm0, e⟩ := (inTo_iff _ _ _ _).1 h
  have hper := hok.perm.per ha
  rcases Nat.eq_zero_or_pos m0 with h0 | h0
  · subst h0
    have e' : a = b := e
    subst e'
    exact ⟨len zs a, hper.pos, Nat.le_refl _, hper.back, fun j h1 h2 => hper.first j h1 h2⟩
  · exact ⟨m0, h0, Nat.le_of_lt hm0, e, fun j h1 h2 => by rw [← e]; exact hok.perm.it_ne ha hper h2 hm0⟩

/-- What the row holds while the elements between become a ring: only the last of them turns. -/
def cut (zs : List Int) (a b m i x : Nat) : Nat := if i < m - 1 then (if x = a then b else nx zs x) else RM.lkF (nx zs) (pv zs) a b x

theorem cut_start {zs : List Int} {a b m : Nat} (hok : RingsOk zs) (ha : a < zs.length) (hm : 0 < m) (hb : orb zs a m = b) (x : Nat) : (if x = a then b else nx zs x) = cut zs a b m 0 x := by
  unfold cut
  by_cases h : 0 < m - 1
  · rw [if_pos h]
  · have e : m = 1 := by omega
    subst e
    have e' : nx zs a = b := hb
    subst e'
    rw [if_neg h, RM.link_next hok.perm ha]
    split
    · rename_i h; rw [h]
    · rfl

theorem cut_step {zs : List Int} {a b m i : Nat} (hok : RingsOk zs) (ha : a < zs.length) (hb : orb zs a m = b) (hm : m ≤ len zs a) (hi : i < m - 1) (x : Nat) :
    (if x = orb zs a (i + 1) then orb zs a ((i + 1) % (m - 1) + 1) else cut zs a b m i x) = cut zs a b m (i + 1) x := by
  have hper := hok.perm.per ha
  have hpv : pv zs b = orb zs a (m - 1) := by
    rw [← hb]
    have := hok.perm.g_it (m - 1) ha
    rw [show m - 1 + 1 = m by omega] at this
    exact this
  unfold cut
  rw [if_pos hi]
  by_cases h1 : i + 1 < m - 1
  · rw [if_pos h1, Nat.mod_eq_of_lt h1]
    split
    · rename_i e
      have hne : orb zs a (i + 1) ≠ a := hper.first (i + 1) (by omega) (by show i + 1 < len zs a; omega)
      rw [e, if_neg hne]
      rfl
    · rfl
  · have e1 : i + 1 = m - 1 := by omega
    rw [if_neg h1, e1, Nat.mod_self]
    unfold RM.lkF
    rw [hpv]
    rfl

theorem cut_end {zs : List Int} {a b m : Nat} (x : Nat) : cut zs a b m (m - 1) x = RM.lkF (nx zs) (pv zs) a b x := by
  unfold cut
  rw [if_neg (by omega)]

/-- The elements behind a. -/
def orb1 (zs : List Int) (a k : Nat) : Nat := orb zs a (k + 1)

set_option maxHeartbeats 2000000 in
theorem linked_one (v : Value) (zs : List Int) (a b : Nat) (w : World) (hv : Ints w v zs) (hN : zs.length * 8 ≤ 140737488351232) (hok : RingsOk zs) (ha : a < zs.length) (hb : b < zs.length) (hin : inB zs a b = true) :
    Calls Try.prog 25 #[v, .int .i64 a, .int .i64 b] w fun e w' => ∃ v', e = .returned (.tuple #[v', .int .i64 (nx zs a)]) ∧ Fresh w.heap.size w' v' (linkI zs a b) ∧ Below w.heap.size w w' := by
  obtain ⟨m, hm0, hmp, hmb, hmn⟩ := place_of hok ha hin
  obtain ⟨i0, hi, hz0, hz1, hz2⟩ := info_parts info_int
  have HV := hide hv
  have HO := hide hok
  have HI := hide hin
  have HMB := hide hmb
  have HMN := hide hmn
  obtain ⟨A, c, rfl⟩ := hv.form rfl
  obtain ⟨bb, off, rfl, hbb, hcell⟩ := hv.open_.2.2.2 (by omega)
  have hca : w.cell? ⟨bb, off + a, none⟩ = some (.int .i64 (nx zs a : Int)) := by rw [hcell a ha, hok.nx_eq ha]
  have HCA := hide hca
  have hl := hok.len_le ha
  have hp := hok.len_pos ha
  clear hv hok hin hcell hca hmb hmn
  go_enter Try.func25, Try.ntmps25
  go_wp2_with fail
  refine (own_any _ zs _ HV.out hN).mono ?_
  rintro e w1 ⟨v1, rfl, hf1, hb1⟩
  have hf1' : Fresh w.heap.size w1 v1 (nums (nx zs) zs.length) := by rw [zs_nums HO.out]; exact hf1
  obtain ⟨g, cap, rfl, ho1⟩ := outRow_of hf1' (by omega)
  have H1 := hide ho1
  clear hf1 hf1' ho1
  go_wp2_with fail
  refine (inRing_is _ zs a b _ true HI.out (HV.out.below hb1) hN HO.out ha).mono ?_
  rintro e w2 ⟨rfl, hb2⟩
  have B2 := hb1.trans (hb2.mono hb1.size)
  have H2 := hide (H1.out.below hb2 H1.out.lt.2)
  clear hb1 hb2
  go_wp2_with fail
  refine (cycle_any _ zs a _ (HV.out.below B2) hN HO.out ha).mono ?_
  rintro e w3 ⟨v3, rfl, hf3, hb3⟩
  obtain ⟨A3, c3, rfl⟩ := hf3.form (cycI_len zs a)
  obtain ⟨b3, off3, rfl, hlb3, hcell3⟩ := cyc_cell hf3.ints hp
  have B3 := B2.trans (hb3.mono B2.size)
  have H3 := hide (H2.out.below hb3 H2.out.lt.2)
  have HC3 := hide hcell3
  have HB3 := hide B3
  obtain ⟨p, hpp⟩ : ∃ p, len zs a = p := ⟨_, rfl⟩
  have HPP := hide hpp
  rw [hpp] at HC3 hp hl hmp ⊢
  clear hf3 hb3 hcell3 B2 B3 hpp
  go_wp2
  go_loopg [10, 11] p (fun gk u ii wr => ∃ k : Nat, gk + k = p + 1 ∧ 0 < k ∧ k ≤ m ∧ ii = .int .i64 k ∧ wr.ownsRow w3.heap.size 2 1 u (k - 1) (vals (orb1 zs a) (k - 1)) ∧ Below w3.heap.size w3 wr)
  case atStart => exact ⟨1, by omega, by omega, by omega, rfl, World.ownsRow_made w3 #[] 0 (Nat.le_refl _) (Nat.zero_le _) rfl, (Below.refl _ _).alloc (Nat.le_refl _) _⟩
  case round =>
    obtain ⟨k, hgk, hk0, hkm, rfl, hown, hbel⟩ := hrel
    by_cases hlt : k < m
    · have hck : wr.cell? ⟨b3, off3 + k, none⟩ = some (.int .i64 (orb zs a k : Int)) := (hbel.cell (p := ⟨b3, off3 + k, none⟩) hlb3).trans (HC3.out k (by omega))
      have hne : orb zs a k ≠ b := HMN.out k hk0 hlt
      obtain ⟨x, hx⟩ : ∃ x, orb zs a k = x := ⟨_, rfl⟩
      have HX := hide hx
      rw [hx] at hck hne
      have ht : ((x : Int) != (b : Int)) = true := by simp; omega
      have g1 : decide ((k : Int) < (p : Int)) = true := by simp; omega
      have hkp : k < p := by omega
      have hsz := hbel.size
      have HGK := hide hgk
      clear hx hgk hne
      go_wp2_with (at_builtin; refine wpList_append_own _ rfl _ _ 22 rfl w3.heap.size 2 i0 (.int .i64 0) 1 8 Try.underlying22 hi hz0 hz1 hz2 rfl (by decide) _ _ _ rfl (hown.alloc _) ⟨wr.heap.size, 0, none⟩ 1 1 [.int .i64 (x : Int)] rfl rfl (one_new _ _ _) (one_int _) ?c3 ?c4 ?c5 ?_)
      case c3 => unfold maxLen; omega
      case c4 => omega
      case c5 => simp; omega
      intro v' w4 hown' hgrow _
      have R := hide (own_next hown hbel (Nat.le_refl _) hown' hgrow)
      clear hown' hgrow hown hbel hck g1
      go_wp2
      go_roundg (gk - 1)
      case measure => have := HGK.out; omega
      case rel =>
        refine ⟨k + 1, by have := HGK.out; omega, by omega, by omega, by go_num, ?_, R.out.2⟩
        have h1 := R.out.1
        rw [show k + 1 - 1 = k - 1 + 1 by omega, vals_succ]
        unfold orb1 at h1 ⊢
        rw [show k - 1 + 1 = k by omega, HX.out] at *
        exact h1
    · obtain rfl : m = k := by omega
      have hcl := cells_of_own hown (F := fun k => .int .i64 (orb1 zs a k : Int)) (fun k hk => vals_get _ _ _ hk)
      have hlt4 := hown.lt
      obtain ⟨A4, c4, rfl, hn4, _, hc4⟩ := hcl
      have hgl := H3.out.lt
      have HR := H3.out.below hbel hgl.2
      have ca := HR.cell ha
      have fa := HR.frozen a
      have HW0 : Hid (OutRow w.heap.size g cap zs.length (cut zs a b m 0) (wr.setCell ⟨g, a, none⟩ (.int .i64 (b : Int)))) := (HR.set a b).congr (fun x _ => cut_start HO.out ha hm0 HMB.out x)
      have BW := hide ((HB3.out.trans (hbel.mono HB3.out.size)).setCell (p := ⟨g, a, none⟩) hgl.1 (.int .i64 (b : Int)))
      have HC4 : Hid (0 < m - 1 → ∃ b4 o4, A4 = some ⟨b4, o4, none⟩ ∧ b4 ≠ g ∧ ∀ k, k < m - 1 → (wr.setCell ⟨g, a, none⟩ (.int .i64 (b : Int))).cell? ⟨b4, o4 + k, none⟩ = some (.int .i64 (orb1 zs a k : Int))) := fun h0 => by
        obtain ⟨b4, o4, rfl, _, hcell4⟩ := hc4 h0
        have hge := (hlt4 b4 rfl).1
        have hne : b4 ≠ g := by omega
        exact ⟨b4, o4, rfl, hne, fun k hk => (cell_far _ ⟨g, a, none⟩ ⟨b4, o4 + k, none⟩ _ hne).trans (hcell4 k hk)⟩
      have hcond : (m : Int) < (p : Int) ∧ wr.cell? ⟨b3, off3 + m, none⟩ = some (.int .i64 (b : Int)) ∨ p ≤ m ∧ decide (m < p) = false := by
        rcases Nat.lt_or_ge m p with h | h
        · refine .inl ⟨by omega, ?_⟩
          rw [hbel.cell (p := ⟨b3, off3 + m, none⟩) hlb3, HC3.out m h, HMB.out]
        · exact .inr ⟨h, by simp; omega⟩
      have hbbg : bb ≠ g := by omega
      obtain ⟨mm, hmm⟩ : ∃ mm, m - 1 = mm := ⟨_, rfl⟩
      have HMM := hide hmm
      rw [hmm] at HC4 hn4 ⊢
      have hmmN : mm < zs.length := by omega
      have ht : ((b : Int) != (b : Int)) = false := by simp
      clear hown hbel hlt4 hc4 hgl HR hmm hgk
      rcases hcond with ⟨hmpl, hcm⟩ | ⟨hmpl, hdec⟩
      all_goals
        go_wp2
        generalize wr.setCell ⟨g, a, none⟩ (.int .i64 (b : Int)) = W at *
        go_loopg [12] mm (fun gk ii wr => ∃ i : Nat, gk + i = mm ∧ ii = .int .i64 i ∧ Hid (OutRow w.heap.size g cap zs.length (cut zs a b m i) wr) ∧ W.grownBy wr (some g))
        case atStart => exact ⟨0, rfl, rfl, HW0, World.grownBy.refl _ _⟩
        case round =>
          obtain ⟨i, hgi, rfl, hrow, hgrow⟩ := hrel
          have hsz2 := hgrow.size
          by_cases hi2 : i < mm
          · obtain ⟨b4, o4, hA4, hne4, hcell4⟩ := HC4.out (by omega)
            subst hA4
            obtain ⟨j, hj⟩ : ∃ j, (i + 1) % mm = j := ⟨_, rfl⟩
            have hjm : j < mm := by rw [← hj]; exact Nat.mod_lt _ (by omega)
            have k1 : wr.cell? ⟨b4, o4 + i, none⟩ = some (.int .i64 (orb1 zs a i : Int)) := hgrow.cell (hcell4 i hi2) (by simpa using hne4)
            have k2 : wr.cell? ⟨b4, o4 + j, none⟩ = some (.int .i64 (orb1 zs a j : Int)) := hgrow.cell (hcell4 j hjm) (by simpa using hne4)
            have hxl : orb1 zs a i < zs.length := orb_lt HO.out ha _
            have hst := hrow.out.set (orb1 zs a i) (orb1 zs a j)
            have hcx := hrow.out.cell hxl
            have hfx := hrow.out.frozen (orb1 zs a i)
            have hcs := fun x => cut_step HO.out ha HMB.out (by rw [HPP.out]; omega) (i := i) (by rw [HMM.out]; exact hi2) x
            have R : Hid (OutRow w.heap.size g cap zs.length (cut zs a b m (i + 1)) (wr.setCell ⟨g, orb1 zs a i, none⟩ (.int .i64 (orb1 zs a j : Int)))) := hst.congr (fun x _ => by
              have := hcs x
              rw [HMM.out, hj] at this
              exact this)
            generalize orb1 zs a i = x at *
            generalize orb1 zs a j = y at *
            have k1' : (wr.setCell ⟨g, x, none⟩ (.int .i64 (y : Int))).cell? ⟨b4, o4 + i, none⟩ = some (.int .i64 (x : Int)) := (cell_far _ ⟨g, x, none⟩ ⟨b4, o4 + i, none⟩ _ hne4).trans k1
            have k2' : (wr.setCell ⟨g, x, none⟩ (.int .i64 (y : Int))).cell? ⟨b4, o4 + j, none⟩ = some (.int .i64 (y : Int)) := (cell_far _ ⟨g, x, none⟩ ⟨b4, o4 + j, none⟩ _ hne4).trans k2
            have HG2 : Hid (W.grownBy (wr.setCell ⟨g, x, none⟩ (.int .i64 (y : Int))) (some g)) := ⟨hgrow.os, hgrow.tape, hgrow.output, by simpa [World.setCell] using hgrow.size, fun k hk hn => (Below.heap_setCell _ _ _ _ (fun e => hn (by rw [e]))).trans (hgrow.block k hk hn)⟩
            have i1 : IntKind.i64.wrap ((i : Int) + 1) = (i : Int) + 1 := IntWalk.i64_in _ (by omega)
            have i2 : ((i : Int) + 1) % (mm : Int) = (j : Int) := by rw [show ((i : Int) + 1) = ((i + 1 : Nat) : Int) by omega, ← Int.natCast_emod, hj]
            have i3 : ((i : Int) + 1).tmod (mm : Int) = (j : Int) := by rw [show ((i : Int) + 1) = ((i + 1 : Nat) : Int) by omega, ← Int.ofNat_tmod, hj]
            have i4 : ((mm : Int) == 0) = false := by simp; omega
            have i5 : ¬ mm = 0 := by omega
            have i7 : IntKind.i64.wrap (j : Int) = (j : Int) := IntWalk.i64_in _ (by omega)
            have q1 : (0 : Int) ≤ (i : Int) := by omega
            have q2 : (i : Int) < (mm : Int) := by omega
            have q3 : (0 : Int) ≤ (j : Int) := by omega
            have q4 : (j : Int) < (mm : Int) := by omega
            have q5 : (0 : Int) ≤ (x : Int) := by omega
            have q6 : (x : Int) < (zs.length : Int) := by omega
            have HGI := hide hgi
            clear hst hcs hj hgi hcell4 hgrow hrow
            go_wp2
            go_region_held3 (fun w' => w'.cell? ⟨b4, o4 + i, none⟩ = some (.int .i64 (x : Int)) ∧ w'.cell? ⟨b4, o4 + j, none⟩ = some (.int .i64 (y : Int))) (first | exact ⟨k1, k2⟩ | exact ⟨k1', k2'⟩) (fail)
            all_goals
              clear i1 i2 i3 i4 i5 i7
              go_wp2
              go_roundg (gk - 1)
              case measure => have := HGI.out; omega
              case rel => exact ⟨i + 1, by have := HGI.out; omega, by go_num, R, ⟨HG2.out.os, HG2.out.tape, HG2.out.output, HG2.out.size, HG2.out.block⟩⟩
          · obtain rfl : i = mm := by omega
            have BW2 : Below w.heap.size w wr := BW.out.grown hgrow (by have := BW.out.size; omega) (fun k hk => by injection hk with hk; rw [← hk]; exact H1.out.lt.1)
            have hca2 : wr.cell? ⟨bb, off + a, none⟩ = some (.int .i64 (nx zs a : Int)) := (BW2.cell (p := ⟨bb, off + a, none⟩) hbb).trans HCA.out
            have HBW := hide BW2
            have g1 : (0 : Int) ≤ (a : Int) := by omega
            have g2 : (a : Int) < (zs.length : Int) := by omega
            clear hgrow BW2
            go_wp2
            go_quiet (fail)
            go_wp2
            go_ret2
            refine ⟨_, rfl, ?_, ⟨HBW.out.os, HBW.out.tape, HBW.out.output, HBW.out.size, HBW.out.block⟩⟩
            have := (hrow.out.congr (G := RM.lkF (nx zs) (pv zs) a b) fun x _ => by have := cut_end (zs := zs) (a := a) (b := b) (m := m) x; rw [HMM.out] at this; exact this).fresh
            exact this

end Go.Proofs.Ytpdimdpphbobiaa
