/-
  The reference's InRing and Own.
-/
import Derived.Test.YtpdimdpphbobiaaSpec3
import Derived.Test.YtpdimdpphbobiaaBuild1
namespace Go.Proofs.Ytpdimdpphbobiaa
open Go.RowKit

/-- b is in the ring of a. -/
def inB (zs : List Int) (a b : Nat) : Bool := inTo zs a (len zs a) b

set_option maxHeartbeats 400000 in
theorem inRing_any (v : Value) (zs : List Int) (a b : Nat) (w : World) (hv : Ints w v zs) (hN : zs.length * 8 ≤ 140737488351232) (hok : RingsOk zs) (ha : a < zs.length) :
    Calls Try.prog 40 #[v, .int .i64 a, .int .i64 b] w fun e w' => e = .returned (.bool (inB zs a b)) ∧ Below w.heap.size w w' := by
  have hl := hok.len_le ha
  have hp := hok.len_pos ha
  have HV := hide hv
  have HO := hide hok
  clear hv hok
  go_enter Try.func40, Try.ntmps40
  go_wp2_with fail
  refine (cycle_any _ zs a _ HV.out hN HO.out ha).mono ?_
  rintro e w1 ⟨v1, rfl, hf1, hb1⟩
  obtain ⟨A1, c1, rfl⟩ := hf1.form (cycI_len zs a)
  obtain ⟨bb, off, rfl, hb, hcell⟩ := cyc_cell hf1.ints hp
  have HC := hide hcell
  obtain ⟨p, hpp⟩ : ∃ p, len zs a = p := ⟨_, rfl⟩
  have HPP := hide hpp
  rw [hpp] at HC hp hl ⊢
  clear hcell hf1 hpp
  go_wp2
  go_loop [8] (fun i => ∃ k : Nat, k ≤ p ∧ i = .int .i64 k ∧ Hid (∀ j, j < k → orb zs a j ≠ b)) (fun i => p - (intOf i).toNat)
  case atStart => exact ⟨0, Nat.zero_le _, rfl, fun j hj => absurd hj (by omega)⟩
  case round =>
    obtain ⟨k, hk, rfl, hnot⟩ := hrel
    by_cases hlt : k < p
    · have hck := HC.out k hlt
      obtain ⟨x, hx⟩ : ∃ x, orb zs a k = x := ⟨_, rfl⟩
      have HX := hide hx
      rw [hx] at hck
      clear hx
      by_cases he : x = b
      · subst he
        have ht : ((x : Int) == (x : Int)) = true := by simp
        have hin : inB zs a x = true := (inTo_iff _ _ _ _).2 ⟨k, by rw [HPP.out]; exact hlt, HX.out⟩
        have HI := hide hin
        clear hin
        go_wp2
        go_ret
        exact ⟨ret_b HI.out.symm, hb1⟩
      · have ht : ((x : Int) == (b : Int)) = false := by simp; omega
        go_wp2
        go_round
        case rel =>
          refine ⟨k + 1, by omega, by go_num, fun j hj => ?_⟩
          rcases Nat.lt_or_ge j k with h | h
          · exact hnot.out j h
          · rw [show j = k by omega, HX.out]; exact he
        case measure => simp [intOf]; omega
    · have hin : inB zs a b = false := by
        cases h : inB zs a b with
        | false => rfl
        | true =>
          obtain ⟨m, hm, e⟩ := (inTo_iff _ _ _ _).1 h
          rw [HPP.out] at hm
          exact absurd e (hnot.out m (by omega))
      have HI := hide hin
      clear hin
      go_wp2
      go_ret
      exact ⟨ret_b HI.out.symm, hb1⟩

theorem inRing_is (v : Value) (zs : List Int) (a b : Nat) (w : World) (x : Bool) (hx : inB zs a b = x) (hv : Ints w v zs) (hN : zs.length * 8 ≤ 140737488351232) (hok : RingsOk zs) (ha : a < zs.length) :
    Calls Try.prog 40 #[v, .int .i64 a, .int .i64 b] w fun e w' => e = .returned (.bool x) ∧ Below w.heap.size w w' := by
  subst hx
  exact inRing_any v zs a b w hv hN hok ha

set_option maxHeartbeats 400000 in
theorem own_any (v : Value) (xs : List Int) (w : World) (hv : Ints w v xs) (hN : xs.length * 8 ≤ 140737488351232) :
    Calls Try.prog 21 #[v] w fun e w' => ∃ v', e = .returned v' ∧ Fresh w.heap.size w' v' xs ∧ Below w.heap.size w w' := by
  obtain ⟨A, c, rfl⟩ := hv.form rfl
  obtain ⟨i0, hi, hz0, hz1, hz2⟩ := info_parts info_int
  have hown := hide (World.ownsRow_made (base := w.heap.size) (e := 2) (size := 1) w #[] 0 (Nat.le_refl _) (Nat.zero_le _) rfl)
  have hbel := hide ((Below.refl w.heap.size w).alloc (Nat.le_refl _) (.cells #[] 2))
  have HV := hide hv
  clear hv
  cases A with
  | none =>
    have h0 : xs = [] := by
      obtain ⟨_, _, _, h⟩ := HV.out.open_
      cases xs with
      | nil => rfl
      | cons x xs => obtain ⟨b, off, h, _⟩ := h (by simp); cases h
    subst h0
    go_enter Try.func21, Try.ntmps21
    go_wp2
    go_ret
    exact ⟨_, rfl, hown.out, hbel.out⟩
  | some x =>
    have hnews : ∀ j u, (xs.map (Value.int .i64))[j]? = some u → (w.alloc (.cells #[] 2)).cell? (x.add j) = some u := by
      intro j u hj
      obtain ⟨_, _, _, h⟩ := HV.out.open_
      have hjl : j < xs.length := by
        rcases Nat.lt_or_ge j xs.length with hl | hl
        · exact hl
        · rw [List.getElem?_eq_none (by simpa using hl)] at hj; cases hj
      obtain ⟨b, off, hA, hb, hcell⟩ := h (by omega)
      injection hA with hA
      subst hA
      have := hcell j hjl
      rw [show (⟨b, off, none⟩ : Addr).add j = ⟨b, off + j, none⟩ by unfold Addr.add; split <;> simp_all, World.cell?_alloc_lt w _ ⟨b, off + j, none⟩ hb, this]
      rw [List.getElem?_map, List.getElem?_eq_getElem hjl] at hj
      simp only [Option.map_some, Option.some.injEq] at hj
      rw [← hj]
      simp [List.getD, List.getElem?_eq_getElem hjl]
    have HNW := hide hnews
    clear hnews
    go_enter Try.func21, Try.ntmps21
    go_wp2_with (at_builtin; refine wpList_append_own _ rfl _ _ 22 rfl w.heap.size 2 i0 (.int .i64 0) 1 8 Try.underlying22 hi hz0 hz1 hz2 rfl (by decide) _ _ _ rfl hown.out x xs.length c (xs.map (Value.int .i64)) rfl (by simp) HNW.out ?c2 ?c3 ?c4 ?c5 ?_)
    case c2 => intro u hu; simp at hu; obtain ⟨n, _, rfl⟩ := hu; rfl
    case c3 => unfold maxLen; omega
    case c4 => omega
    case c5 => simp
    intro v' w1 hown' hgrow _
    have hb1 := hide (hbel.out.grown hgrow (by simp) (fun k hk => (hown.out.lt k hk).1))
    have HO := hide hown'
    clear hown' hgrow
    go_wp2
    go_ret
    refine ⟨v', rfl, ?_, hb1.out⟩
    exact HO.out

end Go.Proofs.Ytpdimdpphbobiaa
