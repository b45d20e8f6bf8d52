/-
  Played of every input; FnRingScript.
-/
import Derived.Test.YtpdimdpphbobiaaScript
namespace Go.Proofs.Ytpdimdpphbobiaa
open Go.RowKit

/-- What Played answers: nothing, or the rings and the results. -/
def PlayedTo (zs ks ls bs : List Int) (w : World) (e : Ending) (w' : World) : Prop :=
  (playedI zs ks ls bs = none ∧ e = .returned (.tuple #[.slice none 0 0, .slice none 0 0, .bool false])) ∨
  ∃ z r v1 v2, playedI zs ks ls bs = some (z, r) ∧ e = .returned (.tuple #[v1, v2, .bool true]) ∧ Fresh w.heap.size w' v1 z ∧ Res w.heap.size w' v2 r

set_option maxHeartbeats 1000000 in
theorem played_bad (v vk va vb : Value) (zs ks ls bs : List Int) (w : World) (hv : Ints w v zs) (hk : Ints w vk ks) (ha : Ints w va ls) (hb : Ints w vb bs) (hN : zs.length * 8 ≤ 140737488351232) (hbad : ¬ (ringsB zs = true ∧ ls.length = ks.length ∧ bs.length = ks.length)) :
    Calls Try.prog 8 #[v, vk, va, vb] w fun e w' => Below w.heap.size w w' ∧ e = .returned (.tuple #[.slice none 0 0, .slice none 0 0, .bool false]) := by
  have HV := hide hv
  obtain ⟨n1, hn1⟩ : ∃ n, ks.length = n := ⟨_, rfl⟩
  obtain ⟨n2, hn2⟩ : ∃ n, ls.length = n := ⟨_, rfl⟩
  obtain ⟨n3, hn3⟩ : ∃ n, bs.length = n := ⟨_, rfl⟩
  obtain ⟨A1, c1, rfl⟩ := hk.form hn1
  obtain ⟨A2, c2, rfl⟩ := ha.form hn2
  obtain ⟨A3, c3, rfl⟩ := hb.form hn3
  rw [hn1, hn2, hn3] at hbad
  clear hv hk ha hb hn1 hn2 hn3
  cases hR : ringsB zs with
  | false =>
    have HR := hide hR
    clear hR hbad
    go_enter Try.func8, Try.ntmps8
    go_wp2_with fail
    refine (rings_is _ zs _ false HR.out HV.out hN).mono ?_
    rintro e w1 ⟨rfl, hb1⟩
    go_wp2
    go_ret3
    exact ⟨hb1, rfl⟩
  | true =>
    have HR := hide hR
    rw [hR] at hbad
    clear hR
    by_cases e1 : n2 = n1
    · subst e1
      have h2 : ((n2 : Int) != (n2 : Int)) = false := by simp
      have hne : n3 ≠ n2 := fun e => hbad ⟨rfl, rfl, e⟩
      have h3 : ((n3 : Int) != (n2 : Int)) = true := by simp; omega
      clear hbad hne
      go_enter Try.func8, Try.ntmps8
      go_wp2_with fail
      refine (rings_is _ zs _ true HR.out HV.out hN).mono ?_
      rintro e w1 ⟨rfl, hb1⟩
      go_wp2
      go_ret3
      exact ⟨hb1, rfl⟩
    · have h2 : ((n2 : Int) != (n1 : Int)) = true := by simp; omega
      clear hbad
      go_enter Try.func8, Try.ntmps8
      go_wp2_with fail
      refine (rings_is _ zs _ true HR.out HV.out hN).mono ?_
      rintro e w1 ⟨rfl, hb1⟩
      go_wp2
      go_ret3
      exact ⟨hb1, rfl⟩

theorem played_any (v vk va vb : Value) (zs ks ls bs : List Int) (w : World) (hv : Ints w v zs) (hk : Ints w vk ks) (ha : Ints w va ls) (hb : Ints w vb bs) (hN : zs.length * 8 ≤ 140737488351232) (hK : ks.length * 24 ≤ 140737488351232) :
    Calls Try.prog 8 #[v, vk, va, vb] w fun e w' => Below w.heap.size w w' ∧ PlayedTo zs ks ls bs w e w' := by
  by_cases h : ringsB zs = true ∧ ls.length = ks.length ∧ bs.length = ks.length
  · have e : playedI zs ks ls bs = playI ks ls bs zs ks.length := by unfold playedI; rw [if_pos h]
    refine (played_loop v vk va vb zs ks ls bs w hv hk ha hb hN hK (ringsOk_of h.1) h.2.1 h.2.2).mono ?_
    unfold PlayedTo
    rw [e]
    exact fun _ _ h => h
  · refine (played_bad v vk va vb zs ks ls bs w hv hk ha hb hN h).mono ?_
    rintro e w' ⟨h1, h2⟩
    exact ⟨h1, .inl ⟨by unfold playedI; rw [if_neg h], h2⟩⟩

theorem playedI_some {zs ks ls bs z : List Int} {r : List (List Int)} (h : playedI zs ks ls bs = some (z, r)) : RingsOk zs ∧ ls.length = ks.length ∧ bs.length = ks.length ∧ playI ks ls bs zs ks.length = some (z, r) := by
  unfold playedI at h
  split at h
  · rename_i hc
    exact ⟨ringsOk_of hc.1, hc.2.1, hc.2.2, h⟩
  · cases h

theorem Stepped.row {zs : List Int} {i : Nat} {b k : Int} {z' x : List Int} (h : Stepped zs i b k z' x) (hok : RingsOk zs) (hi : i < zs.length) : x.length ≤ zs.length := by
  cases h with
  | do_ => rw [cycI_len]; exact hok.len_le hi
  | _ => show 1 ≤ zs.length; omega

theorem playI_rows {ks ls bs zs : List Int} (hok : RingsOk zs) : ∀ {n : Nat} {z : List Int} {r : List (List Int)}, playI ks ls bs zs n = some (z, r) → ∀ (j : Nat) (x : List Int), r[j]? = some x → x.length ≤ zs.length
  | 0, _, _, h, j, x, hj => by cases h; simp at hj
  | n + 1, z', r', h, j, x, hj => by
    obtain ⟨z, r, y, h1, h2, rfl⟩ := playI_part h
    obtain ⟨o1, o2, o3⟩ := playI_ok hok h1
    obtain ⟨i, _, hi, hs⟩ := stepI_some h2
    rcases Nat.lt_or_ge j r.length with hlt | hge
    · rw [List.getElem?_append_left hlt] at hj
      exact playI_rows hok h1 j x hj
    · rw [List.getElem?_append_right hge] at hj
      have hm := List.mem_of_getElem? hj
      simp at hm
      subst hm
      rw [← o2]
      exact hs.row o1 hi

set_option maxHeartbeats 1000000 in
theorem fnRingScript_any (v : Value) (zs : List Int) (vk : Value) (ks : List Int) (va : Value) (ls : List Int) (vb : Value) (bs : List Int) (w : World) (hv : Ints w v zs) (hN0 : zs.length ≤ 1048576) (hk : Ints w vk ks) (hK0 : ks.length ≤ 1048576) (ha : Ints w va ls) (_ : ls.length ≤ 1048576) (hb : Ints w vb bs) (_ : bs.length ≤ 1048576) :
    Calls Try.prog 7 #[v, vk, va, vb] w fun e w' => e = .returned (.bool true) ∧ Below w.heap.size w w' := by
  have HV := hide hv
  have HK := hide hk
  have HA := hide ha
  have HB := hide hb
  clear hv hk ha hb
  go_enter Try.func7, Try.ntmps7
  go_wp2_with fail
  refine (played_any _ _ _ _ zs ks ls bs _ HV.out HK.out HA.out HB.out (by omega) (by omega)).mono ?_
  rintro e w1 ⟨hb1, ⟨_, rfl⟩ | ⟨z, r, v1, v2, hpl, rfl, hf, hr⟩⟩
  · go_wp2
    go_ret
    exact ⟨rfl, hb1⟩
  · obtain ⟨hok, hla, hlb, hE⟩ := playedI_some hpl
    obtain ⟨o1, o2, o3⟩ := playI_ok hok hE
    have HO := hide hok
    have HLA := hide hla
    have HLB := hide hlb
    have HE := hide hE
    have HOZ := hide o1
    have HLZ := hide o2
    have HLR := hide o3
    have HF := hide hf
    have HR := hide hr
    have HB1 := hide hb1
    obtain ⟨A1, c1, rfl⟩ := hf.form o2
    obtain ⟨g2, c2, rfl, _, _, _⟩ := hr.form o3
    clear hpl hok hla hlb hE o1 o2 o3 hf hr hb1
    go_wp2_with fail
    refine (script_any _ _ _ _ zs ks ls bs z r _ (HV.out.below HB1.out) (HK.out.below HB1.out) (HA.out.below HB1.out) (HB.out.below HB1.out) (by omega) (by omega) HO.out HLA.out HLB.out HE.out).mono ?_
    rintro e w2 ⟨hb2, v3, v4, v5, rfl, hf3, hf4, hr5⟩
    replace HF := hide (HF.out.below hb2)
    replace HR := hide (HR.out.below hb2)
    have HB2 := hide (HB1.out.trans (hb2.mono HB1.out.size))
    have HF3 := hide hf3
    have HF4 := hide hf4
    have HR5 := hide hr5
    obtain ⟨A3, c3, rfl⟩ := hf3.form HLZ.out
    obtain ⟨A4, c4, rfl⟩ := hf4.form (nums_len _ _)
    obtain ⟨g5, c5, rfl, _, _, _⟩ := hr5.form HLR.out
    clear hb2 hf3 hf4 hr5
    go_wp2_with fail
    refine (same_true _ _ z _ HF3.out.ints HF.out.ints (by rw [HLZ.out]; omega)).mono ?_
    rintro e w3 ⟨rfl, hb3⟩
    go_wp2_with fail
    refine (backward_any _ z _ (HF.out.below hb3).ints (by rw [HLZ.out]; omega) HOZ.out).mono ?_
    rintro e w4 ⟨v6, rfl, hf6, hb4⟩
    rw [HLZ.out] at hf6
    obtain ⟨A6, c6, rfl⟩ := hf6.form (nums_len _ _)
    go_wp2_with fail
    refine (same_true _ _ (nums (pv z) zs.length) _ ((HF4.out.below hb3).below hb4).ints hf6.ints (by rw [nums_len]; omega)).mono ?_
    rintro e w5 ⟨rfl, hb5⟩
    go_wp2_with fail
    refine (all_true _ _ r _ (((HR5.out.below hb3).below hb4).below hb5) (((HR.out.below hb3).below hb4).below hb5) (by rw [HLR.out]; omega) (fun j x hj => by have := playI_rows HO.out HE.out j x hj; omega)).mono ?_
    rintro e w6 ⟨rfl, hb6⟩
    go_wp2
    go_ret
    have B3 := HB2.out.trans (hb3.mono HB2.out.size)
    have B4 := B3.trans (hb4.mono B3.size)
    have B5 := B4.trans (hb5.mono B4.size)
    exact ⟨rfl, B5.trans (hb6.mono B5.size)⟩

end Go.Proofs.Ytpdimdpphbobiaa
