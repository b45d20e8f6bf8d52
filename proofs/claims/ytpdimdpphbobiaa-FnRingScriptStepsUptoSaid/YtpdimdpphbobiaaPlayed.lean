/-
  spec.Played. Printed by playgen.py.
-/
import Derived.Test.YtpdimdpphbobiaaPush
import Derived.Test.YtpdimdpphbobiaaSpecL4
import Derived.OwnWalk
namespace Go.Proofs.Ytpdimdpphbobiaa
open Go.RowKit

set_option maxHeartbeats 8000000 in
theorem played_loop (v vk va vb : Value) (zs ks ls bs : List Int) (w : World) (hv : Ints w v zs) (hk : Ints w vk ks) (ha : Ints w va ls) (hb : Ints w vb bs) (hN : zs.length * 8 ≤ 140737488351232) (hK : ks.length * 24 ≤ 140737488351232) (hok : RingsOk zs) (hla : ls.length = ks.length) (hlb : bs.length = ks.length) :
    Calls Try.prog 8 #[v, vk, va, vb] w fun e w' => Below w.heap.size w w' ∧ ((playI ks ls bs zs ks.length = none ∧ e = .returned (.tuple #[.slice none 0 0, .slice none 0 0, .bool false])) ∨ ∃ z r v1 v2, playI ks ls bs zs ks.length = some (z, r) ∧ e = .returned (.tuple #[v1, v2, .bool true]) ∧ Fresh w.heap.size w' v1 z ∧ Res w.heap.size w' v2 r) := by
  obtain ⟨i0, hi0, hz0, hz1, hz2⟩ := info_parts info_row
  have HRB := hide (ringsB_of hok)
  have HV := hide hv
  have HK := hide hk
  have HA := hide ha
  have HB := hide hb
  have HO := hide hok
  obtain ⟨A1, c1, rfl⟩ := hk.form rfl
  obtain ⟨A2, c2, rfl⟩ := ha.form hla
  obtain ⟨A3, c3, rfl⟩ := hb.form hlb
  have hnn : ((ks.length : Int) != (ks.length : Int)) = false := by simp
  clear hv hk ha hb hok hla hlb
  go_enter Try.func8, Try.ntmps8
  go_wp2_with fail
  refine (rings_is _ zs _ true HRB.out HV.out hN).mono ?_
  rintro e w1 ⟨rfl, hb1⟩
  go_wp2_with fail
  refine (own_any _ zs _ (HV.out.below hb1) hN).mono ?_
  rintro e w2 ⟨vN, rfl, hf, hb2⟩
  have HF2 := hide (hf.mono hb1.size)
  have HB2 := hide (hb1.trans (hb2.mono hb1.size))
  clear hf hb1 hb2
  go_wp2
  go_loopw [11, 12, 13] (fun now out i wr => ∃ (k : Nat) (z : List Int) (r : List (List Int)), k ≤ ks.length ∧ i = .int .i64 k ∧ Hid (playI ks ls bs zs k = some (z, r)) ∧ Hid (Fresh w.heap.size wr now z) ∧ Hid (Res w.heap.size wr out r) ∧ Below w.heap.size w wr) (fun _ _ i _ => ks.length - (intOf i).toNat)
  case atStart => exact ⟨0, zs, [], Nat.zero_le _, rfl, rfl, HF2.out.tag (tag_alloc _ _), Res.start _ HB2.out.size, HB2.out.alloc HB2.out.size _⟩
  case round =>
    obtain ⟨k, z, r, hk, rfl, HPl, HF, HR, hbel⟩ := hrel
    obtain ⟨hokz, hlz, hlr⟩ := playI_ok HO.out HPl.out
    by_cases hlt : k < ks.length
    · obtain ⟨b1, o1, hA1, hlb1, hc1⟩ := HK.out.open_.2.2.2 (by omega)
      obtain ⟨b2, o2, hA2, hlb2, hc2⟩ := HA.out.open_.2.2.2 (by omega)
      obtain ⟨b3, o3, hA3, hlb3, hc3⟩ := HB.out.open_.2.2.2 (by omega)
      subst hA1 hA2 hA3
      have d1 : wr.cell? ⟨b1, o1 + k, none⟩ = some (.int .i64 (ks.getD k 0)) := (hbel.cell hlb1).trans (hc1 k hlt)
      have d2 : wr.cell? ⟨b2, o2 + k, none⟩ = some (.int .i64 (ls.getD k 0)) := (hbel.cell hlb2).trans (hc2 k hlt)
      have d3 : wr.cell? ⟨b3, o3 + k, none⟩ = some (.int .i64 (bs.getD k 0)) := (hbel.cell hlb3).trans (hc3 k hlt)
      obtain ⟨kd, hkd⟩ : ∃ x, ks.getD k 0 = x := ⟨_, rfl⟩
      obtain ⟨a, had⟩ : ∃ x, ls.getD k 0 = x := ⟨_, rfl⟩
      obtain ⟨b, hbd⟩ : ∃ x, bs.getD k 0 = x := ⟨_, rfl⟩
      have GO : Hid (∀ z' x, stepI z kd a b = some (z', x) → playI ks ls bs zs (k + 1) = some (z', r ++ [x])) := fun z' x h => playI_go HPl.out (by rw [hkd, had, hbd]; exact h)
      have NO : Hid (stepI z kd a b = none → playI ks ls bs zs ks.length = none) := fun h => playI_stopped HPl.out (by rw [hkd, had, hbd]; exact h) hlt
      rw [hkd] at d1
      rw [had] at d2
      rw [hbd] at d3
      clear hc1 hc2 hc3 hkd had hbd hlb1 hlb2 hlb3
      obtain ⟨vs, ho, hon, hin⟩ := HR.out
      have HIN := hide hin
      have HBL := hide hbel
      have HOZ := hide hokz
      have HLZ := hide hlz
      have HR24 : Hid ((r.length + 1) * 24 ≤ 140737488355328) := by have : (r.length + 1) * 24 ≤ 140737488355328 := (by omega); exact this
      have HRM : Hid (r.length + 1 ≤ maxLen) := by have : r.length + 1 ≤ maxLen := (by unfold maxLen; omega); exact this
      have hNz : z.length * 8 ≤ 140737488351232 := by omega
      obtain ⟨AN, cN, rfl⟩ := HF.out.form hlz
      clear hin hon hokz hlr hbel HR
      by_cases ha0 : a < 0
      · have HNO : Hid (stepI z kd a b = none) := stepI_out (by omega)
        go_wp2
        go_ret3
        exact ⟨HBL.out, .inl ⟨NO.out HNO.out, rfl⟩⟩
      by_cases ha1 : (zs.length : Int) ≤ a
      · have HNO : Hid (stepI z kd a b = none) := stepI_out (by rw [HLZ.out]; omega)
        go_wp2
        go_ret3
        exact ⟨HBL.out, .inl ⟨NO.out HNO.out, rfl⟩⟩
      obtain ⟨i, rfl⟩ : ∃ i : Nat, a = i := ⟨a.toNat, by omega⟩
      have hiz : i < z.length := by omega
      have hi1 : i < zs.length := by omega
      by_cases k0 : kd = 0
      · subst k0
        obtain ⟨bn, on, hAN, hlbn, hcn⟩ := HF.out.ints.open_.2.2.2 (by omega)
        subst hAN
        have dn := hcn i hi1
        rw [HOZ.out.nx_eq hiz] at dn
        clear hcn
        have HBW := HBL
        have HFW := HF
        have HX := hide (GO.out _ _ (stepI_0 hiz))
        have hsz := HBW.out.size
        go_wp2_with (at_builtin; refine stopApp ?_)
        refine hide ?_
        refine wpList_append_own _ rfl _ _ 23 rfl w.heap.size 22 i0 (.slice none 0 0) 1 24 Try.underlying23 hi0 hz0 hz1 hz2 rfl (by decide) _ r.length vs rfl ?own ⟨wr.heap.size + 1, 0, none⟩ 1 1 [.slice (some ⟨wr.heap.size, 0, none⟩) 1 1] ?hx rfl ?hnews ?h1 ?c3 ?c4 ?c5 ?_
        case own => exact own_tag (own_tag ho (tag_alloc _ _)) (tag_alloc _ _)
        case hx => rfl
        case hnews => exact one_new2 _ _ _ _
        case h1 => exact one_row _ rfl
        case c3 => exact HRM.out
        case c4 => exact HR24.out
        case c5 => simp; omega
        intro v' w9 hown' hgrow hnil
        have R := hide (push_one (Nat.le_refl _) HBW.out ho HIN.out hown' hgrow hnil)
        have HF9 := hide (HFW.out.tag (R.out.2.2 _ (by decide)))
        clear hown' hgrow hnil ho hsz
        set_option maxRecDepth 20000 in go_wp2
        go_roundw
        case rel => exact ⟨k + 1, _, _, by omega, by go_num, HX.out, HF9.out, R.out.1, R.out.2.1⟩
        case measure => simp [intOf]; omega
      by_cases k1 : kd = 1
      · subst k1
        go_wp2_with fail
        refine (before_any _ z i _ HF.out.ints hNz HOZ.out hiz).mono ?_
        rintro e w3 ⟨rfl, hb3⟩
        replace ho := own_tag ho (tag_below hb3)
        replace HIN := hide (inner_tag HIN.out (tag_below hb3))
        have HBW := hide (HBL.out.trans (hb3.mono HBL.out.size))
        have HFW := hide (HF.out.tag (tag_below hb3))
        clear hb3
        have HX := hide (GO.out _ _ (stepI_1 hiz))
        have hsz := HBW.out.size
        go_wp2_with (at_builtin; refine stopApp ?_)
        refine hide ?_
        refine wpList_append_own _ rfl _ _ 23 rfl w.heap.size 22 i0 (.slice none 0 0) 1 24 Try.underlying23 hi0 hz0 hz1 hz2 rfl (by decide) _ r.length vs rfl ?own ⟨w3.heap.size + 1, 0, none⟩ 1 1 [.slice (some ⟨w3.heap.size, 0, none⟩) 1 1] ?hx rfl ?hnews ?h1 ?c3 ?c4 ?c5 ?_
        case own => exact own_tag (own_tag ho (tag_alloc _ _)) (tag_alloc _ _)
        case hx => rfl
        case hnews => exact one_new2 _ _ _ _
        case h1 => exact one_row _ rfl
        case c3 => exact HRM.out
        case c4 => exact HR24.out
        case c5 => simp; omega
        intro v' w9 hown' hgrow hnil
        have R := hide (push_one (Nat.le_refl _) HBW.out ho HIN.out hown' hgrow hnil)
        have HF9 := hide (HFW.out.tag (R.out.2.2 _ (by decide)))
        clear hown' hgrow hnil ho hsz
        set_option maxRecDepth 20000 in go_wp2
        go_roundw
        case rel => exact ⟨k + 1, _, _, by omega, by go_num, HX.out, HF9.out, R.out.1, R.out.2.1⟩
        case measure => simp [intOf]; omega
      by_cases k2 : kd = 2
      · subst k2
        go_wp2_with fail
        refine (cycle_any _ z i _ HF.out.ints hNz HOZ.out hiz).mono ?_
        rintro e w3 ⟨vC, rfl, hf, hb3⟩
        obtain ⟨AC, cC, rfl⟩ := hf.form (cycI_len z i)
        replace ho := own_tag ho (tag_below hb3)
        replace HIN := hide (inner_tag HIN.out (tag_below hb3))
        have HBW := hide (HBL.out.trans (hb3.mono HBL.out.size))
        have HFW := hide (HF.out.tag (tag_below hb3))
        clear hb3 hf
        have HX := hide (GO.out _ _ (stepI_2 hiz))
        have hsz := HBW.out.size
        go_wp2_with (at_builtin; refine stopApp ?_)
        refine hide ?_
        refine wpList_append_own _ rfl _ _ 23 rfl w.heap.size 22 i0 (.slice none 0 0) 1 24 Try.underlying23 hi0 hz0 hz1 hz2 rfl (by decide) _ r.length vs rfl ?own ⟨w3.heap.size + 1, 0, none⟩ 1 1 [.slice (some ⟨w3.heap.size, 0, none⟩) 1 1] ?hx rfl ?hnews ?h1 ?c3 ?c4 ?c5 ?_
        case own => exact own_tag (own_tag ho (tag_alloc _ _)) (tag_alloc _ _)
        case hx => rfl
        case hnews => exact one_new2 _ _ _ _
        case h1 => exact one_row _ rfl
        case c3 => exact HRM.out
        case c4 => exact HR24.out
        case c5 => simp; omega
        intro v' w9 hown' hgrow hnil
        have R := hide (push_one (Nat.le_refl _) HBW.out ho HIN.out hown' hgrow hnil)
        have HF9 := hide (HFW.out.tag (R.out.2.2 _ (by decide)))
        clear hown' hgrow hnil ho hsz
        set_option maxRecDepth 20000 in go_wp2
        go_roundw
        case rel => exact ⟨k + 1, _, _, by omega, by go_num, HX.out, HF9.out, R.out.1, R.out.2.1⟩
        case measure => simp [intOf]; omega
      by_cases k3 : kd = 3
      · subst k3
        cases hS : stepsB b with
        | false =>
          have HS := hide hS
          have HNO : Hid (stepI z 3 i b = none) := by rw [Hid, stepI_3 hiz, hS]; rfl
          clear hS
          go_wp2_with fail
          refine (steps_is b _ false HS.out).mono ?_
          rintro e w3 ⟨rfl, rfl⟩
          go_wp2
          go_ret3
          exact ⟨HBL.out, .inl ⟨NO.out HNO.out, rfl⟩⟩
        | true =>
          have HS := hide hS
          obtain ⟨n1, n2⟩ := steps_ok hS
          clear hS
          go_wp2_with fail
          refine (steps_is b _ true HS.out).mono ?_
          rintro e w3 ⟨rfl, rfl⟩
          go_wp2_with fail
          refine (moved_any _ z i b _ HF.out.ints hNz HOZ.out hiz ⟨n1, n2⟩).mono ?_
          rintro e w3 ⟨rfl, hb3⟩
          replace ho := own_tag ho (tag_below hb3)
          replace HIN := hide (inner_tag HIN.out (tag_below hb3))
          have HBW := hide (HBL.out.trans (hb3.mono HBL.out.size))
          have HFW := hide (HF.out.tag (tag_below hb3))
          clear hb3
          have HX := hide (GO.out _ _ (by rw [stepI_3 hiz, HS.out]; rfl))
          have hsz := HBW.out.size
          go_wp2_with (at_builtin; refine stopApp ?_)
          refine hide ?_
          refine wpList_append_own _ rfl _ _ 23 rfl w.heap.size 22 i0 (.slice none 0 0) 1 24 Try.underlying23 hi0 hz0 hz1 hz2 rfl (by decide) _ r.length vs rfl ?own ⟨w3.heap.size + 1, 0, none⟩ 1 1 [.slice (some ⟨w3.heap.size, 0, none⟩) 1 1] ?hx rfl ?hnews ?h1 ?c3 ?c4 ?c5 ?_
          case own => exact own_tag (own_tag ho (tag_alloc _ _)) (tag_alloc _ _)
          case hx => rfl
          case hnews => exact one_new2 _ _ _ _
          case h1 => exact one_row _ rfl
          case c3 => exact HRM.out
          case c4 => exact HR24.out
          case c5 => simp; omega
          intro v' w9 hown' hgrow hnil
          have R := hide (push_one (Nat.le_refl _) HBW.out ho HIN.out hown' hgrow hnil)
          have HF9 := hide (HFW.out.tag (R.out.2.2 _ (by decide)))
          clear hown' hgrow hnil ho hsz
          set_option maxRecDepth 20000 in go_wp2
          go_roundw
          case rel => exact ⟨k + 1, _, _, by omega, by go_num, HX.out, HF9.out, R.out.1, R.out.2.1⟩
          case measure => simp [intOf]; omega
      by_cases k4 : kd = 4
      · subst k4
        go_wp2_with fail
        refine (cycle_any _ z i _ HF.out.ints hNz HOZ.out hiz).mono ?_
        rintro e w3 ⟨vC, rfl, hf, hb3⟩
        obtain ⟨AC, cC, rfl⟩ := hf.form (cycI_len z i)
        replace ho := own_tag ho (tag_below hb3)
        replace HIN := hide (inner_tag HIN.out (tag_below hb3))
        have HBW := hide (HBL.out.trans (hb3.mono HBL.out.size))
        have HFW := hide (HF.out.tag (tag_below hb3))
        have HC := hide (hf.mono HBL.out.size)
        clear hb3 hf
        have HX := hide (GO.out _ _ (stepI_4 hiz))
        have hsz := HBW.out.size
        go_wp2_with (at_builtin; refine stopApp ?_)
        refine hide ?_
        refine wpList_append_own _ rfl _ _ 23 rfl w.heap.size 22 i0 (.slice none 0 0) 1 24 Try.underlying23 hi0 hz0 hz1 hz2 rfl (by decide) _ r.length vs rfl ?own ⟨w3.heap.size, 0, none⟩ 1 1 [.slice AC (len z i) cC] ?hx rfl ?hnews ?h1 ?c3 ?c4 ?c5 ?_
        case own => exact own_tag ho (tag_alloc _ _)
        case hx => rfl
        case hnews => exact one_new _ _ _
        case h1 => exact one_row _ rfl
        case c3 => exact HRM.out
        case c4 => exact HR24.out
        case c5 => simp; omega
        intro v' w9 hown' hgrow hnil
        have R := hide (push_row (Nat.le_refl _) HBW.out ho HIN.out HC.out hown' hgrow hnil)
        have HF9 := hide (HFW.out.tag (R.out.2.2 _ (by decide)))
        clear hown' hgrow hnil ho hsz
        set_option maxRecDepth 20000 in go_wp2
        go_roundw
        case rel => exact ⟨k + 1, _, _, by omega, by go_num, HX.out, HF9.out, R.out.1, R.out.2.1⟩
        case measure => simp [intOf]; omega
      by_cases k5 : kd = 5
      · subst k5
        by_cases hb0 : b < 0
        · have HNO : Hid (stepI z 5 i b = none) := by rw [Hid, stepI_5 hiz, if_neg (by omega)]
          go_wp2
          go_ret3
          exact ⟨HBL.out, .inl ⟨NO.out HNO.out, rfl⟩⟩
        by_cases hb1 : (zs.length : Int) ≤ b
        · have HNO : Hid (stepI z 5 i b = none) := by rw [Hid, stepI_5 hiz, if_neg (by rw [HLZ.out]; omega)]
          go_wp2
          go_ret3
          exact ⟨HBL.out, .inl ⟨NO.out HNO.out, rfl⟩⟩
        obtain ⟨j, rfl⟩ : ∃ j : Nat, b = j := ⟨b.toNat, by omega⟩
        have hjz : j < z.length := by omega
        go_wp2_with fail
        refine (linked_any _ z i j _ HF.out.ints hNz HOZ.out hiz hjz).mono ?_
        rintro e w3 ⟨vL, rfl, hf, hb3⟩
        have HL := hide (hf.mono HBL.out.size)
        replace ho := own_tag ho (tag_below hb3)
        replace HIN := hide (inner_tag HIN.out (tag_below hb3))
        have HBW := hide (HBL.out.trans (hb3.mono HBL.out.size))
        have HFW := hide (HF.out.tag (tag_below hb3))
        replace HFW := HL
        clear hb3 hf HL
        have HX := hide (GO.out _ _ (by rw [stepI_5 hiz, if_pos (by omega), Int.toNat_natCast]))
        have hsz := HBW.out.size
        go_wp2_with (at_builtin; refine stopApp ?_)
        refine hide ?_
        refine wpList_append_own _ rfl _ _ 23 rfl w.heap.size 22 i0 (.slice none 0 0) 1 24 Try.underlying23 hi0 hz0 hz1 hz2 rfl (by decide) _ r.length vs rfl ?own ⟨w3.heap.size + 1, 0, none⟩ 1 1 [.slice (some ⟨w3.heap.size, 0, none⟩) 1 1] ?hx rfl ?hnews ?h1 ?c3 ?c4 ?c5 ?_
        case own => exact own_tag (own_tag ho (tag_alloc _ _)) (tag_alloc _ _)
        case hx => rfl
        case hnews => exact one_new2 _ _ _ _
        case h1 => exact one_row _ rfl
        case c3 => exact HRM.out
        case c4 => exact HR24.out
        case c5 => simp; omega
        intro v' w9 hown' hgrow hnil
        have R := hide (push_one (Nat.le_refl _) HBW.out ho HIN.out hown' hgrow hnil)
        have HF9 := hide (HFW.out.tag (R.out.2.2 _ (by decide)))
        clear hown' hgrow hnil ho hsz
        set_option maxRecDepth 20000 in go_wp2
        go_roundw
        case rel => exact ⟨k + 1, _, _, by omega, by go_num, HX.out, HF9.out, R.out.1, R.out.2.1⟩
        case measure => simp [intOf]; omega
      by_cases k6 : kd = 6
      · subst k6
        by_cases hb0 : b < 1
        · have HNO : Hid (stepI z 6 i b = none) := by rw [Hid, stepI_6 hiz, if_neg (by omega)]
          go_wp2
          go_ret3
          exact ⟨HBL.out, .inl ⟨NO.out HNO.out, rfl⟩⟩
        by_cases hb1 : 100000 < b
        · have HNO : Hid (stepI z 6 i b = none) := by rw [Hid, stepI_6 hiz, if_neg (by omega)]
          go_wp2
          go_ret3
          exact ⟨HBL.out, .inl ⟨NO.out HNO.out, rfl⟩⟩
        have hp := HOZ.out.len_pos hiz
        have hll := HOZ.out.len_le hiz
        have hr0 := Int.emod_nonneg b (show (len z i : Int) ≠ 0 by omega)
        have hr1 := Int.emod_lt_of_pos b (show (0 : Int) < (len z i : Int) by omega)
        obtain ⟨q, hq⟩ : ∃ q : Nat, b % (len z i : Int) = q := ⟨(b % (len z i : Int)).toNat, by omega⟩
        have hqp : q < len z i := by omega
        have hp0 : ((len z i : Int) == 0) = false := by simp; omega
        have hnn0 : 0 ≤ b := by omega
        rcases Nat.eq_zero_or_pos q with rfl | hq0
        · have hqq : b % (len z i : Int) = 0 := by simpa using hq
          have HNO : Hid (stepI z 6 i b = none) := by rw [Hid, stepI_6 hiz, if_neg (by rw [hqq]; omega)]
          clear hq hr0 hr1
          go_wp2_with fail
          refine (cycle_any _ z i _ HF.out.ints hNz HOZ.out hiz).mono ?_
          rintro e w3 ⟨vC, rfl, hf, hb3⟩
          obtain ⟨AC, cC, rfl⟩ := hf.form (cycI_len z i)
          replace HBL := hide (HBL.out.trans (hb3.mono HBL.out.size))
          clear hb3 hf
          go_wp2
          go_ret3
          exact ⟨HBL.out, .inl ⟨NO.out HNO.out, rfl⟩⟩
        · have HMR := hide (mv_rem HOZ.out hiz hq)
          have HST : Hid (stepI z 6 i b = some (linkI z i (mv z i (b + 1)), [(nx z i : Int)])) := by rw [Hid, stepI_6 hiz, if_pos (by rw [hq]; omega)]
          have hq1 : ((q : Int) == 0) = false := by simp; omega
          clear hr0 hr1
          go_wp2_with fail
          refine (cycle_any _ z i _ HF.out.ints hNz HOZ.out hiz).mono ?_
          rintro e w3 ⟨vC, rfl, hf, hb3⟩
          obtain ⟨AC, cC, rfl⟩ := hf.form (cycI_len z i)
          replace HF := hide (HF.out.tag (tag_below hb3))
          replace ho := own_tag ho (tag_below hb3)
          replace HIN := hide (inner_tag HIN.out (tag_below hb3))
          replace HBL := hide (HBL.out.trans (hb3.mono HBL.out.size))
          clear hb3 hf
          go_wp2_with fail
          refine (cycle_any _ z i _ HF.out.ints hNz HOZ.out hiz).mono ?_
          rintro e w4 ⟨vD, rfl, hf, hb3⟩
          obtain ⟨AD, cD, rfl⟩ := hf.form (cycI_len z i)
          replace HF := hide (HF.out.tag (tag_below hb3))
          replace ho := own_tag ho (tag_below hb3)
          replace HIN := hide (inner_tag HIN.out (tag_below hb3))
          replace HBL := hide (HBL.out.trans (hb3.mono HBL.out.size))
          clear hb3 hf
          go_wp2_with fail
          rw [hq]
          refine (unlinked_any _ z i q _ HF.out.ints hNz HOZ.out hiz hq0 hqp).mono ?_
          rintro e w5 ⟨vL, rfl, hf, hb3⟩
          rw [← HMR.out] at hf
          have HL := hide (hf.mono HBL.out.size)
          replace ho := own_tag ho (tag_below hb3)
          replace HIN := hide (inner_tag HIN.out (tag_below hb3))
          have HBW := hide (HBL.out.trans (hb3.mono HBL.out.size))
          have HFW := hide (HF.out.tag (tag_below hb3))
          replace HFW := HL
          clear hb3 hf HL
          have HX := hide (GO.out _ _ (HST.out))
          have hsz := HBW.out.size
          go_wp2_with (at_builtin; refine stopApp ?_)
          refine hide ?_
          refine wpList_append_own _ rfl _ _ 23 rfl w.heap.size 22 i0 (.slice none 0 0) 1 24 Try.underlying23 hi0 hz0 hz1 hz2 rfl (by decide) _ r.length vs rfl ?own ⟨w5.heap.size + 1, 0, none⟩ 1 1 [.slice (some ⟨w5.heap.size, 0, none⟩) 1 1] ?hx rfl ?hnews ?h1 ?c3 ?c4 ?c5 ?_
          case own => exact own_tag (own_tag ho (tag_alloc _ _)) (tag_alloc _ _)
          case hx => rfl
          case hnews => exact one_new2 _ _ _ _
          case h1 => exact one_row _ rfl
          case c3 => exact HRM.out
          case c4 => exact HR24.out
          case c5 => simp; omega
          intro v' w9 hown' hgrow hnil
          have R := hide (push_one (Nat.le_refl _) HBW.out ho HIN.out hown' hgrow hnil)
          have HF9 := hide (HFW.out.tag (R.out.2.2 _ (by decide)))
          clear hown' hgrow hnil ho hsz
          set_option maxRecDepth 20000 in go_wp2
          go_roundw
          case rel => exact ⟨k + 1, _, _, by omega, by go_num, HX.out, HF9.out, R.out.1, R.out.2.1⟩
          case measure => simp [intOf]; omega
      have HNO : Hid (stepI z kd i b = none) := stepI_7 k0 k1 k2 k3 k4 k5 k6
      go_wp2
      go_ret3
      exact ⟨HBL.out, .inl ⟨NO.out HNO.out, rfl⟩⟩
    · obtain rfl : k = ks.length := by omega
      go_wp2
      go_ret3
      exact ⟨hbel, .inr ⟨z, r, _, _, HPl.out, rfl, HF.out, HR.out⟩⟩

end Go.Proofs.Ytpdimdpphbobiaa
