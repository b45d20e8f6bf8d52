/-
  impl.RingScript. Printed by scriptgen.py.
-/
import Derived.Test.YtpdimdpphbobiaaPlayed
import Derived.Test.YtpdimdpphbobiaaImplL2
import Derived.Test.YtpdimdpphbobiaaDo
namespace Go.Proofs.Ytpdimdpphbobiaa
open Go.RowKit

/-- Link, with what it leaves of rows of other types. -/
theorem link_tag (B : Nat) (w : World) (zs : List Int) (ad : Nat → Nat) (V : Nat → Value) (a b : Nat) (h : RingV w zs.length ad (nx zs) (pv zs) V) (hok : RingsOk zs) (ha : a < zs.length) (hb : b < zs.length) (hB : ∀ k, k < zs.length → B ≤ ad k) :
    Calls Try.prog 34 #[.pointer (some ⟨ad a, 0, none⟩), .pointer (some ⟨ad b, 0, none⟩)] w fun e w' => e = .returned (.pointer (some ⟨ad (nx zs a), 0, none⟩)) ∧ RingV w' zs.length ad (nx (linkI zs a b)) (pv (linkI zs a b)) V ∧ Below B w w' ∧ ∀ e, e ≠ 54 → Tag e w w' := by
  refine (link_any w zs.length ad (nx zs) (pv zs) V a b h hok.perm ha hb).mono ?_
  rintro e w' ⟨rfl, rfl⟩
  exact ⟨rfl, (link_ring h hok.perm ha hb).congr (fun i hi => nx_link hi) (fun i hi => pv_link hok ha hb hi), link_below (Below.refl _ _) (hB a ha) (hB b hb) (hB _ (hok.nx_lt ha)) (hB _ (hok.perm.g_lt b hb)), fun e he => tag_link h hok.perm ha hb he⟩
  
set_option maxHeartbeats 400000 in
theorem unlink_tag (B : Nat) (w : World) (zs : List Int) (ad : Nat → Nat) (V : Nat → Value) (a : Nat) (n : Int) (h : RingV w zs.length ad (nx zs) (pv zs) V) (hok : RingsOk zs) (ha : a < zs.length) (hn : 0 < n) (hn2 : n ≤ 4000000000000000000) (hB : ∀ k, k < zs.length → B ≤ ad k) :
    Calls Try.prog 36 #[.pointer (some ⟨ad a, 0, none⟩), .int .i64 n] w fun e w' => e = .returned (.pointer (some ⟨ad (nx zs a), 0, none⟩)) ∧ RingV w' zs.length ad (nx (linkI zs a (mv zs a (n + 1)))) (pv (linkI zs a (mv zs a (n + 1)))) V ∧ Below B w w' ∧ ∀ e, e ≠ 54 → Tag e w w' := by
  have HH := hide h
  have HO := hide hok
  have HB := hide hB
  clear h hok hB
  go_enter Try.func36, Try.ntmps36
  go_wp2_with fail
  refine (move_any _ zs ad V a (n + 1) HH.out HO.out ha (by omega)).mono ?_
  rintro e w1 ⟨rfl, rfl⟩
  go_wp2_with fail
  refine (link_tag B _ zs ad V a (mv zs a (n + 1)) HH.out HO.out ha (mv_lt HO.out ha _) HB.out).mono ?_
  rintro e w2 ⟨rfl, h2⟩
  have H2 := hide h2
  clear h2
  go_wp2
  go_ret
  exact ⟨rfl, H2.out⟩
  
theorem len_z (w : World) (z : List Int) (ad : Nat → Nat) (i : Nat) (h : RingV w z.length ad (nx z) (pv z) numV) (hok : RingsOk z) (hi : i < z.length) (hN : z.length ≤ 4611686018427387904) :
    Calls Try.prog 31 #[.pointer (some ⟨ad i, 0, none⟩)] w fun e w' => e = .returned (.int .i64 (len z i)) ∧ w = w' := len_ring w z.length ad (nx z) (pv z) numV i h hok.perm hi hN

set_option maxHeartbeats 8000000 in
theorem script_any (v vk va vb : Value) (zs ks ls bs zE : List Int) (rE : List (List Int)) (w : World) (hv : Ints w v zs) (hk : Ints w vk ks) (ha : Ints w va ls) (hb : Ints w vb bs) (hN : zs.length * 8 ≤ 140737488351232) (hK : ks.length * 24 ≤ 140737488351232) (hok : RingsOk zs) (hla : ls.length = ks.length) (hlb : bs.length = ks.length) (hE : playI ks ls bs zs ks.length = some (zE, rE)) :
    Calls Try.prog 9 #[v, vk, va, vb] w fun e w' => Below w.heap.size w w' ∧ ∃ v1 v2 v3, e = .returned (.tuple #[v1, v2, v3]) ∧ Fresh w.heap.size w' v1 zE ∧ Fresh w.heap.size w' v2 (nums (pv zE) zs.length) ∧ Res w.heap.size w' v3 rE := by
  obtain ⟨i0, hi0, hz0, hz1, hz2⟩ := info_parts info_row
  have HV := hide hv
  have HK := hide hk
  have HA := hide ha
  have HB := hide hb
  have HO := hide hok
  have HE := hide hE
  obtain ⟨A1, c1, rfl⟩ := hk.form rfl
  obtain ⟨A2, c2, rfl⟩ := ha.form hla
  obtain ⟨A3, c3, rfl⟩ := hb.form hlb
  clear hv hk ha hb hok hla hlb hE
  go_enter Try.func9, Try.ntmps9
  go_wp2_with fail
  refine (build_any _ zs _ HV.out hN HO.out).mono ?_
  rintro e w1 ⟨rfl, ad, hr, hgt, hrow, hbel⟩
  have HS1 := hide (stand_build hr hgt hrow hbel)
  clear hr hgt hrow hbel
  go_wp2
  go_loopw [12, 20] (fun out i wr => ∃ (k : Nat) (z : List Int) (r : List (List Int)), k ≤ ks.length ∧ i = .int .i64 k ∧ Hid (playI ks ls bs zs k = some (z, r)) ∧ Hid (Stand w w.heap.size ad z wr) ∧ Hid (Res w.heap.size wr out r)) (fun _ i _ => ks.length - (intOf i).toNat)
  case atStart => exact ⟨0, zs, [], Nat.zero_le _, rfl, rfl, HS1.out.tags (tag_alloc _ _) (tag_alloc _ _) (HS1.out.bel.alloc HS1.out.bel.size _), Res.start _ HS1.out.bel.size⟩
  case round =>
    obtain ⟨k, z, r, hk, rfl, HPl, HS, HR⟩ := hrel
    obtain ⟨hokz, hlz, hlr⟩ := playI_ok HO.out HPl.out
    by_cases hlt : k < ks.length
    · obtain ⟨b1, o1, hA1, hlb1, hc1⟩ := HK.out.open_.2.2.2 (by omega)
      obtain ⟨b2, o2, hA2, hlb2, hc2⟩ := HA.out.open_.2.2.2 (by omega)
      obtain ⟨b3, o3, hA3, hlb3, hc3⟩ := HB.out.open_.2.2.2 (by omega)
      subst hA1 hA2 hA3
      have d1 : wr.cell? ⟨b1, o1 + k, none⟩ = some (.int .i64 (ks.getD k 0)) := (HS.out.bel.cell hlb1).trans (hc1 k hlt)
      have d2 : wr.cell? ⟨b2, o2 + k, none⟩ = some (.int .i64 (ls.getD k 0)) := (HS.out.bel.cell hlb2).trans (hc2 k hlt)
      have d3 : wr.cell? ⟨b3, o3 + k, none⟩ = some (.int .i64 (bs.getD k 0)) := (HS.out.bel.cell hlb3).trans (hc3 k hlt)
      obtain ⟨⟨zE', rE'⟩, hNx⟩ : ∃ p, playI ks ls bs zs (k + 1) = some p := by obtain ⟨z', r', h⟩ := playI_before (show k + 1 ≤ ks.length by omega) HE.out; exact ⟨_, h⟩
      obtain ⟨z2, r2, x, hp1, hp2, hp3⟩ := playI_part hNx
      obtain ⟨rfl, rfl⟩ : z = z2 ∧ r = r2 := by have := HPl.out.symm.trans hp1; injection this with this; injection this with e1 e2; exact ⟨e1, e2⟩
      subst hp3
      have HX := hide hNx
      obtain ⟨i, had, hiz, hst⟩ := stepI_some hp2
      obtain ⟨kd, hkd⟩ : ∃ x, ks.getD k 0 = x := ⟨_, rfl⟩
      obtain ⟨b, hbd⟩ : ∃ x, bs.getD k 0 = x := ⟨_, rfl⟩
      rw [hkd] at d1 hst
      rw [had] at d2
      rw [hbd] at d3 hst
      clear hc1 hc2 hc3 hkd had hbd hlb1 hlb2 hlb3 hNx hp1 hp2
      obtain ⟨vs, ho, hon, hin⟩ := HR.out
      have HIN := hide hin
      have HOZ := hide hokz
      have HLZ := hide hlz
      have HR24 : Hid ((r.length + 1) * 24 ≤ 140737488355328) := by have : (r.length + 1) * 24 ≤ 140737488355328 := (by omega); exact this
      have HRM : Hid (r.length + 1 ≤ maxLen) := by have : r.length + 1 ≤ maxLen := (by unfold maxLen; omega); exact this
      have hNz : z.length * 8 ≤ 140737488351232 := by omega
      have hi1 : i < zs.length := by omega
      have g1 : (0 : Int) ≤ (i : Int) := by omega
      have g2 : (i : Int) < (zs.length : Int) := by omega
      have hca := HS.out.row.cell hiz
      clear hin hon hokz hlr HR
      cases hst with
      | next =>
        have HSW := HS
        go_wp2_with fail
        refine (next_set _ _ _ (HS.out.ring.c0 hiz)).mono ?_
        rintro e w' ⟨rfl, rfl⟩
        go_wp2_with fail
        refine (number_set _ _ _ (HS.out.num (HOZ.out.nx_lt hiz))).mono ?_
        rintro e w' ⟨rfl, rfl⟩
        have hsz := HSW.out.bel.size
        go_wp2_with (at_builtin; refine stopApp ?_)
        refine hide ?_
        refine wpList_append_own _ rfl _ _ 23 rfl w.heap.size 22 i0 (.slice none 0 0) 1 24 Try.underlying23 hi0 hz0 hz1 hz2 rfl (by decide) _ r.length vs rfl ?own ⟨wr.heap.size + 1, 0, none⟩ 1 1 [.slice (some ⟨wr.heap.size, 0, none⟩) 1 1] ?hx rfl ?hnews ?h1 ?c3 ?c4 ?c5 ?_
        case own => exact own_tag (own_tag ho (tag_alloc _ _)) (tag_alloc _ _)
        case hx => rfl
        case hnews => exact one_new2 _ _ _ _
        case h1 => exact one_row _ rfl
        case c3 => exact HRM.out
        case c4 => exact HR24.out
        case c5 => simp; omega
        intro v' w9 hown' hgrow hnil
        have R := hide (push_one (Nat.le_refl _) HSW.out.bel ho HIN.out hown' hgrow hnil)
        have HS9 := hide (HSW.out.tags (R.out.2.2 _ (by decide)) (R.out.2.2 _ (by decide)) R.out.2.1)
        clear hown' hgrow hnil ho hsz
        set_option maxRecDepth 20000 in go_wp2
        go_roundw
        case rel => exact ⟨k + 1, _, _, by omega, by go_num, HX.out, HS9.out, R.out.1⟩
        case measure => simp [intOf]; omega
      | prev =>
        have HSW := HS
        go_wp2_with fail
        refine (prev_set _ _ _ _ (HS.out.ring.c0 hiz) (HS.out.ring.c1 hiz)).mono ?_
        rintro e w' ⟨rfl, rfl⟩
        go_wp2_with fail
        refine (number_set _ _ _ (HS.out.num (HOZ.out.perm.g_lt i hiz))).mono ?_
        rintro e w' ⟨rfl, rfl⟩
        have hsz := HSW.out.bel.size
        go_wp2_with (at_builtin; refine stopApp ?_)
        refine hide ?_
        refine wpList_append_own _ rfl _ _ 23 rfl w.heap.size 22 i0 (.slice none 0 0) 1 24 Try.underlying23 hi0 hz0 hz1 hz2 rfl (by decide) _ r.length vs rfl ?own ⟨wr.heap.size + 1, 0, none⟩ 1 1 [.slice (some ⟨wr.heap.size, 0, none⟩) 1 1] ?hx rfl ?hnews ?h1 ?c3 ?c4 ?c5 ?_
        case own => exact own_tag (own_tag ho (tag_alloc _ _)) (tag_alloc _ _)
        case hx => rfl
        case hnews => exact one_new2 _ _ _ _
        case h1 => exact one_row _ rfl
        case c3 => exact HRM.out
        case c4 => exact HR24.out
        case c5 => simp; omega
        intro v' w9 hown' hgrow hnil
        have R := hide (push_one (Nat.le_refl _) HSW.out.bel ho HIN.out hown' hgrow hnil)
        have HS9 := hide (HSW.out.tags (R.out.2.2 _ (by decide)) (R.out.2.2 _ (by decide)) R.out.2.1)
        clear hown' hgrow hnil ho hsz
        set_option maxRecDepth 20000 in go_wp2
        go_roundw
        case rel => exact ⟨k + 1, _, _, by omega, by go_num, HX.out, HS9.out, R.out.1⟩
        case measure => simp [intOf]; omega
      | len =>
        have HSW := HS
        go_wp2_with fail
        refine (len_z _ z ad i HS.out.ring HOZ.out hiz (by omega)).mono ?_
        rintro e w' ⟨rfl, rfl⟩
        have hsz := HSW.out.bel.size
        go_wp2_with (at_builtin; refine stopApp ?_)
        refine hide ?_
        refine wpList_append_own _ rfl _ _ 23 rfl w.heap.size 22 i0 (.slice none 0 0) 1 24 Try.underlying23 hi0 hz0 hz1 hz2 rfl (by decide) _ r.length vs rfl ?own ⟨wr.heap.size + 1, 0, none⟩ 1 1 [.slice (some ⟨wr.heap.size, 0, none⟩) 1 1] ?hx rfl ?hnews ?h1 ?c3 ?c4 ?c5 ?_
        case own => exact own_tag (own_tag ho (tag_alloc _ _)) (tag_alloc _ _)
        case hx => rfl
        case hnews => exact one_new2 _ _ _ _
        case h1 => exact one_row _ rfl
        case c3 => exact HRM.out
        case c4 => exact HR24.out
        case c5 => simp; omega
        intro v' w9 hown' hgrow hnil
        have R := hide (push_one (Nat.le_refl _) HSW.out.bel ho HIN.out hown' hgrow hnil)
        have HS9 := hide (HSW.out.tags (R.out.2.2 _ (by decide)) (R.out.2.2 _ (by decide)) R.out.2.1)
        clear hown' hgrow hnil ho hsz
        set_option maxRecDepth 20000 in go_wp2
        go_roundw
        case rel => exact ⟨k + 1, _, _, by omega, by go_num, HX.out, HS9.out, R.out.1⟩
        case measure => simp [intOf]; omega
      | move hS =>
        obtain ⟨n1, n2⟩ := steps_ok hS
        clear hS
        have HSW := HS
        go_wp2_with fail
        refine (move_any _ z ad numV i b HS.out.ring HOZ.out hiz ⟨by omega, by omega⟩).mono ?_
        rintro e w' ⟨rfl, rfl⟩
        go_wp2_with fail
        refine (number_set _ _ _ (HS.out.num (mv_lt HOZ.out hiz _))).mono ?_
        rintro e w' ⟨rfl, rfl⟩
        have hsz := HSW.out.bel.size
        go_wp2_with (at_builtin; refine stopApp ?_)
        refine hide ?_
        refine wpList_append_own _ rfl _ _ 23 rfl w.heap.size 22 i0 (.slice none 0 0) 1 24 Try.underlying23 hi0 hz0 hz1 hz2 rfl (by decide) _ r.length vs rfl ?own ⟨wr.heap.size + 1, 0, none⟩ 1 1 [.slice (some ⟨wr.heap.size, 0, none⟩) 1 1] ?hx rfl ?hnews ?h1 ?c3 ?c4 ?c5 ?_
        case own => exact own_tag (own_tag ho (tag_alloc _ _)) (tag_alloc _ _)
        case hx => rfl
        case hnews => exact one_new2 _ _ _ _
        case h1 => exact one_row _ rfl
        case c3 => exact HRM.out
        case c4 => exact HR24.out
        case c5 => simp; omega
        intro v' w9 hown' hgrow hnil
        have R := hide (push_one (Nat.le_refl _) HSW.out.bel ho HIN.out hown' hgrow hnil)
        have HS9 := hide (HSW.out.tags (R.out.2.2 _ (by decide)) (R.out.2.2 _ (by decide)) R.out.2.1)
        clear hown' hgrow hnil ho hsz
        set_option maxRecDepth 20000 in go_wp2
        go_roundw
        case rel => exact ⟨k + 1, _, _, by omega, by go_num, HX.out, HS9.out, R.out.1⟩
        case measure => simp [intOf]; omega
      | do_ =>
        go_wp2_with fail
        refine (visited_any _ z.length ad (nx z) (pv z) i HS.out.ring HOZ.out.perm hiz hNz).mono ?_
        rintro e w3 ⟨vC, rfl, hf, hb3⟩
        replace hf : Fresh wr.heap.size w3 vC (cycI z i) := hf
        obtain ⟨AC, cC, rfl⟩ := hf.form (cycI_len z i)
        replace ho := own_tag ho (tag_below hb3)
        replace HIN := hide (inner_tag HIN.out (tag_below hb3))
        have HSW := hide (HS.out.below hb3)
        have HC := hide (hf.mono HS.out.bel.size)
        clear hb3 hf
        have hsz := HSW.out.bel.size
        go_wp2_with (at_builtin; refine stopApp ?_)
        refine hide ?_
        refine wpList_append_own _ rfl _ _ 23 rfl w.heap.size 22 i0 (.slice none 0 0) 1 24 Try.underlying23 hi0 hz0 hz1 hz2 rfl (by decide) _ r.length vs rfl ?own ⟨w3.heap.size, 0, none⟩ 1 1 [.slice AC (len z i) cC] ?hx rfl ?hnews ?h1 ?c3 ?c4 ?c5 ?_
        case own => exact own_tag ho (tag_alloc _ _)
        case hx => rfl
        case hnews => exact one_new _ _ _
        case h1 => exact one_row _ rfl
        case c3 => exact HRM.out
        case c4 => exact HR24.out
        case c5 => simp; omega
        intro v' w9 hown' hgrow hnil
        have R := hide (push_row (Nat.le_refl _) HSW.out.bel ho HIN.out HC.out hown' hgrow hnil)
        have HS9 := hide (HSW.out.tags (R.out.2.2 _ (by decide)) (R.out.2.2 _ (by decide)) R.out.2.1)
        clear hown' hgrow hnil ho hsz
        set_option maxRecDepth 20000 in go_wp2
        go_roundw
        case rel => exact ⟨k + 1, _, _, by omega, by go_num, HX.out, HS9.out, R.out.1⟩
        case measure => simp [intOf]; omega
      | link j hb hj =>
        subst hb
        have hj1 : j < zs.length := by omega
        go_wp2_with fail
        refine (element_some _ _ j _ _ hj1 (HS.out.row.cell hj)).mono ?_
        rintro e w' ⟨rfl, rfl⟩
        go_wp2_with fail
        refine (link_tag (w.heap.size + 1) _ z ad numV i j HS.out.ring HOZ.out hiz hj HS.out.gt).mono ?_
        rintro e w3 ⟨rfl, hr3, hb3, ht3⟩
        have HSW := hide (HS.out.link hr3 hb3)
        replace ho := own_tag ho (ht3 _ (by decide))
        replace HIN := hide (inner_tag HIN.out (ht3 _ (by decide)))
        have c9 := HSW.out.num (k := nx z i) (by rw [linkI_len]; exact HOZ.out.nx_lt hiz)
        clear hr3 hb3 ht3
        go_wp2_with fail
        refine (number_set _ _ _ (c9)).mono ?_
        rintro e w' ⟨rfl, rfl⟩
        clear c9
        have hsz := HSW.out.bel.size
        go_wp2_with (at_builtin; refine stopApp ?_)
        refine hide ?_
        refine wpList_append_own _ rfl _ _ 23 rfl w.heap.size 22 i0 (.slice none 0 0) 1 24 Try.underlying23 hi0 hz0 hz1 hz2 rfl (by decide) _ r.length vs rfl ?own ⟨w3.heap.size + 1, 0, none⟩ 1 1 [.slice (some ⟨w3.heap.size, 0, none⟩) 1 1] ?hx rfl ?hnews ?h1 ?c3 ?c4 ?c5 ?_
        case own => exact own_tag (own_tag ho (tag_alloc _ _)) (tag_alloc _ _)
        case hx => rfl
        case hnews => exact one_new2 _ _ _ _
        case h1 => exact one_row _ rfl
        case c3 => exact HRM.out
        case c4 => exact HR24.out
        case c5 => simp; omega
        intro v' w9 hown' hgrow hnil
        have R := hide (push_one (Nat.le_refl _) HSW.out.bel ho HIN.out hown' hgrow hnil)
        have HS9 := hide (HSW.out.tags (R.out.2.2 _ (by decide)) (R.out.2.2 _ (by decide)) R.out.2.1)
        clear hown' hgrow hnil ho hsz
        set_option maxRecDepth 20000 in go_wp2
        go_roundw
        case rel => exact ⟨k + 1, _, _, by omega, by go_num, HX.out, HS9.out, R.out.1⟩
        case measure => simp [intOf]; omega
      | unlink h1 h2 =>
        go_wp2_with fail
        refine (unlink_tag (w.heap.size + 1) _ z ad numV i b HS.out.ring HOZ.out hiz (by omega) (by omega) HS.out.gt).mono ?_
        rintro e w3 ⟨rfl, hr3, hb3, ht3⟩
        have HSW := hide (HS.out.link hr3 hb3)
        replace ho := own_tag ho (ht3 _ (by decide))
        replace HIN := hide (inner_tag HIN.out (ht3 _ (by decide)))
        have c9 := HSW.out.num (k := nx z i) (by rw [linkI_len]; exact HOZ.out.nx_lt hiz)
        clear hr3 hb3 ht3
        go_wp2_with fail
        refine (number_set _ _ _ (c9)).mono ?_
        rintro e w' ⟨rfl, rfl⟩
        clear c9
        have hsz := HSW.out.bel.size
        go_wp2_with (at_builtin; refine stopApp ?_)
        refine hide ?_
        refine wpList_append_own _ rfl _ _ 23 rfl w.heap.size 22 i0 (.slice none 0 0) 1 24 Try.underlying23 hi0 hz0 hz1 hz2 rfl (by decide) _ r.length vs rfl ?own ⟨w3.heap.size + 1, 0, none⟩ 1 1 [.slice (some ⟨w3.heap.size, 0, none⟩) 1 1] ?hx rfl ?hnews ?h1 ?c3 ?c4 ?c5 ?_
        case own => exact own_tag (own_tag ho (tag_alloc _ _)) (tag_alloc _ _)
        case hx => rfl
        case hnews => exact one_new2 _ _ _ _
        case h1 => exact one_row _ rfl
        case c3 => exact HRM.out
        case c4 => exact HR24.out
        case c5 => simp; omega
        intro v' w9 hown' hgrow hnil
        have R := hide (push_one (Nat.le_refl _) HSW.out.bel ho HIN.out hown' hgrow hnil)
        have HS9 := hide (HSW.out.tags (R.out.2.2 _ (by decide)) (R.out.2.2 _ (by decide)) R.out.2.1)
        clear hown' hgrow hnil ho hsz
        set_option maxRecDepth 20000 in go_wp2
        go_roundw
        case rel => exact ⟨k + 1, _, _, by omega, by go_num, HX.out, HS9.out, R.out.1⟩
        case measure => simp [intOf]; omega
    · obtain rfl : k = ks.length := by omega
      obtain ⟨rfl, rfl⟩ : z = zE ∧ r = rE := by have := HPl.out.symm.trans HE.out; injection this with this; injection this with e1 e2; exact ⟨e1, e2⟩
      have HOZ := hide hokz
      have HLZ := hide hlz
      have hNz : z.length * 8 ≤ 140737488351232 := by omega
      have KF := hide (follow_stand HS.out HOZ.out hNz)
      rw [HLZ.out] at KF
      clear hokz hlz hlr
      go_wp2_with fail
      refine KF.out.mono ?_
      rintro e w3 ⟨v3, rfl, hf3, hb3⟩
      have HS3 := hide (HS.out.below hb3)
      have HR3 := hide (HR.out.below hb3)
      have KL := hide (lead_any w3 z.length ad (nx z) (pv z) _ HS3.out.ring HOZ.out.perm (HS3.out.list (by unfold maxLen; omega)) hNz)
      rw [HLZ.out] at KL
      obtain ⟨A3, c3, rfl⟩ := hf3.form HLZ.out
      have HF3 := hide hf3
      have HB3 := hide hb3
      clear hf3 hb3
      go_wp2_with fail
      refine KL.out.mono ?_
      rintro e w4 ⟨v4, rfl, hf4, hb4⟩
      obtain ⟨A4, c4, rfl⟩ := hf4.form rfl
      obtain ⟨gR, cR, rfl, _, _, _⟩ := HR.out.form rfl
      have HF4 := hide hf4
      have HB4 := hide hb4
      clear hf4 hb4
      go_wp2
      go_ret3
      have hs1 := HS.out.bel.size
      have hs2 := HB3.out.size
      exact ⟨(HS3.out.below HB4.out).bel, _, _, _, rfl, (HF3.out.below HB4.out).mono hs1, HF4.out.mono (by omega), HR3.out.below HB4.out⟩

end Go.Proofs.Ytpdimdpphbobiaa
