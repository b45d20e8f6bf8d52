/-
  FnRingSingles. Printed by singlesgen.py.
-/
import Derived.Test.YtpdimdpphbobiaaPack
import Derived.Test.YtpdimdpphbobiaaRingNew
namespace Go.Proofs.Ytpdimdpphbobiaa
open Go.RowKit

/-- The rings behind m links: 0 .. m are one ring, the others are rings of one. -/
def chF (m i : Nat) : Nat := if i < m then i + 1 else if i = m then 0 else i
def chG (m i : Nat) : Nat := if i = 0 then m else if i ≤ m then i - 1 else i
theorem ch_perm {m n : Nat} (h : m < n) : RM.Perm n (chF m) (chG m) := by
  refine ⟨fun i hi => ?_, fun i hi => ?_, fun i hi => ?_, fun i hi => ?_⟩
  · unfold chF
    repeat' split
    all_goals omega
  · unfold chG
    repeat' split
    all_goals omega
  · unfold chG chF
    repeat' split
    all_goals omega
  · unfold chF chG
    repeat' split
    all_goals omega
theorem ch_start (n : Nat) : nums (chF 0) n = nums (fun i => i) n := nums_congr fun i _ => by
  unfold chF
  repeat' split
  all_goals omega
theorem ch_step {m n : Nat} (h : m + 1 < n) : linkI (nums (chF m) n) m (m + 1) = nums (chF (m + 1)) n := by
  unfold linkI
  rw [nums_len]
  refine nums_congr fun i hi => ?_
  unfold RM.lkF
  rw [pv_nums (ch_perm (show m < n by omega)) (show m + 1 < n by omega), nx_nums (show m < n by omega), nx_nums hi]
  unfold chF chG
  repeat' split
  all_goals omega
theorem ch_end {n : Nat} (h : 0 < n) : nums (chF (n - 1)) n = nums (sucN n) n := nums_congr fun i hi => by
  unfold chF sucN
  repeat' split
  all_goals omega

theorem playI_singles {n : Nat} : ∀ m, m < n → ∃ r, playI (nums (fun _ => 5) (n - 1)) (nums (fun i => i) (n - 1)) (nums (fun i => i + 1) (n - 1)) (nums (fun i => i) n) m = some (nums (chF m) n, r)
  | 0, _ => ⟨[], by rw [ch_start]; rfl⟩
  | m + 1, h => by
    obtain ⟨r, hr⟩ := playI_singles (n := n) m (by omega)
    refine ⟨_, playI_go hr (x := [(nx (nums (chF m) n) m : Int)]) ?_⟩
    rw [nums_get _ _ _ (show m < n - 1 by omega), nums_get _ _ _ (show m < n - 1 by omega), nums_get _ _ _ (show m < n - 1 by omega)]
    show stepI (nums (chF m) n) 5 (m : Int) ((m + 1 : Nat) : Int) = _
    rw [stepI_5 (by rw [nums_len]; omega), if_pos (by rw [nums_len]; omega), Int.toNat_natCast, ch_step h]

theorem ids_ok (n : Nat) : RingsOk (nums (fun i => i) n) := nums_ok ⟨fun _ h => h, fun _ h => h, fun _ _ => rfl, fun _ _ => rfl⟩

/-- The four slices behind k rounds. -/
def Four (B : Nat) (w : World) (k g0 c0 g1 c1 g2 c2 g3 c3 : Nat) : Prop := Pack B w [(g0, c0, nums (fun i => i) k), (g1, c1, nums (fun _ => 5) (k - 1)), (g2, c2, nums (fun i => i) (k - 1)), (g3, c3, nums (fun i => i + 1) (k - 1))]

set_option maxHeartbeats 2000000 in
theorem fnRingSingles_any (n : Int) (w : World) (_hn : (Lit.int .i64 n).wf = true) :
    Calls Try.prog 5 #[.int .i64 n] w fun e w' => e = .returned (.bool true) ∧ Below w.heap.size w w' := by
  clear _hn
  by_cases h1 : n < 1
  · go_enter Try.func5, Try.ntmps5
    go_wp2
    go_ret
    exact ⟨rfl, Below.refl _ _⟩
  by_cases h2 : 200 < n
  · go_enter Try.func5, Try.ntmps5
    go_wp2
    go_ret
    exact ⟨rfl, Below.refl _ _⟩
  obtain ⟨N, rfl⟩ : ∃ N : Nat, n = N := ⟨n.toNat, by omega⟩
  have hN1 : 0 < N := by omega
  have hN2 : N ≤ 200 := by omega
  obtain ⟨i0, hi, hz0, hz1, hz2⟩ := info_parts info_int
  go_enter Try.func5, Try.ntmps5
  go_wp2
  go_loopw [3, 4, 5, 6, 7] (fun s0 s1 s2 s3 i wr => ∃ k g0 c0 g1 c1 g2 c2 g3 c3 : Nat, k ≤ N ∧ i = .int .i64 k ∧ s0 = .slice (some ⟨g0, 0, none⟩) k c0 ∧ s1 = .slice (some ⟨g1, 0, none⟩) (k - 1) c1 ∧ s2 = .slice (some ⟨g2, 0, none⟩) (k - 1) c2 ∧ s3 = .slice (some ⟨g3, 0, none⟩) (k - 1) c3 ∧ Hid (Four w.heap.size wr k g0 c0 g1 c1 g2 c2 g3 c3) ∧ Below w.heap.size w wr) (fun _ _ _ _ i _ => N - (intOf i).toNat)
  case atStart =>
    have q0 := (Pack.nil w.heap.size w).start (Nat.le_refl _)
    have q1 := q0.start (by simp <;> omega)
    have q2 := q1.start (by simp <;> omega)
    have q3 := q2.start (by simp <;> omega)
    have b4 := ((((Below.refl w.heap.size w).alloc (Nat.le_refl _) (.cells #[] 2)).alloc (by simp <;> omega) (.cells #[] 2)).alloc (by simp <;> omega) (.cells #[] 2)).alloc (by simp <;> omega) (.cells #[] 2)
    simp at q3
    exact ⟨0, w.heap.size, 0, w.heap.size + 1, 0, w.heap.size + 1 + 1, 0, w.heap.size + 1 + 1 + 1, 0, Nat.zero_le _, rfl, rfl, rfl, rfl, rfl, q3, b4⟩
  case round =>
    obtain ⟨k, g0, c0, g1, c1, g2, c2, g3, c3, hk, rfl, rfl, rfl, rfl, rfl, HQ, hbel⟩ := hrel
    by_cases hlt : k < N
    · have HQ0 : Hid (Pack w.heap.size wr ([] ++ (g0, c0, nums (fun i => i) k) :: [(g1, c1, nums (fun _ => 5) (k - 1)), (g2, c2, nums (fun i => i) (k - 1)), (g3, c3, nums (fun i => i + 1) (k - 1))])) := HQ
      have hsz0 := hbel.size
      go_wp2_with (at_builtin; refine stopApp ?_)
      refine hide ?_
      refine wpList_append_lies _ rfl _ _ 22 rfl w.heap.size 2 i0 (.int .i64 0) 1 8 Try.underlying22 hi hz0 hz1 hz2 rfl (by decide) _ (k) ((nums (fun i => i) (k)).map (Value.int .i64)) rfl ?own ⟨wr.heap.size, 0, none⟩ 1 1 [.int .i64 (k : Int)] ?hx rfl ?hnews ?h1 (by decide) ?c3 ?c4 ?c5 (wr.heap.size + 1) ?hH ?_
      case own => have hf := HQ0.out.get; rw [Fresh, nums_len] at hf; exact hf.alloc _
      case hx => rfl
      case hnews => exact one_new _ _ _
      case h1 => exact one_row _ rfl
      case c3 => unfold maxLen; omega
      case c4 => omega
      case c5 => simp; omega
      case hH => simp
      intro G0 C0 w1 hown hgrow hlies _
      have R0 := hide (HQ0.out.push (nums_len _ _) (Nat.le_refl _) hbel hown hgrow (by rcases hlies with h | h; exact .inl h; exact .inr (by rw [h]; simp)))
      have HB1 := hide R0.out.2
      have HP1 := hide R0.out.1
      clear hown hgrow hlies R0 hsz0
      by_cases hk0 : k = 0
      · subst hk0
        set_option maxRecDepth 20000 in go_wp2
        go_roundw
        case rel => exact ⟨1, G0, C0, g1, c1, g2, c2, g3, c3, by omega, by go_num, rfl, rfl, rfl, rfl, HP1, HB1.out⟩
        case measure => simp [intOf]; omega
      · have hw2 : IntKind.i64.wrap ((k : Int) - 1) = ((k - 1 : Nat) : Int) := by rw [IntWalk.i64_in _ (by omega)]; omega
        have hk1 : 0 < k := by omega
        have e0 : nums (fun i => i) k ++ [(k : Int)] = nums (fun i => i) (k + 1) := (nums_succ _ _).symm
        rw [e0] at HP1
        clear e0
        have HQ1 : Hid (Pack w.heap.size w1 ([(G0, C0, nums (fun i => i) (k + 1))] ++ (g1, c1, nums (fun _ => 5) (k - 1)) :: [(g2, c2, nums (fun i => i) (k - 1)), (g3, c3, nums (fun i => i + 1) (k - 1))])) := HP1
        have hsz1 := HB1.out.size
        go_wp2_with (at_builtin; refine stopApp ?_)
        refine hide ?_
        refine wpList_append_lies _ rfl _ _ 22 rfl w.heap.size 2 i0 (.int .i64 0) 1 8 Try.underlying22 hi hz0 hz1 hz2 rfl (by decide) _ (k - 1) ((nums (fun _ => 5) (k - 1)).map (Value.int .i64)) rfl ?own ⟨w1.heap.size, 0, none⟩ 1 1 [.int .i64 5] ?hx rfl ?hnews ?h1 (by decide) ?c3 ?c4 ?c5 (w1.heap.size + 1) ?hH ?_
        case own => have hf := HQ1.out.get; rw [Fresh, nums_len] at hf; exact hf.alloc _
        case hx => rfl
        case hnews => exact one_new _ _ _
        case h1 => exact one_row _ rfl
        case c3 => unfold maxLen; omega
        case c4 => omega
        case c5 => simp; omega
        case hH => simp
        intro G1 C1 w2 hown hgrow hlies _
        have R1 := hide (HQ1.out.push (nums_len _ _) (Nat.le_refl _) HB1.out hown hgrow (by rcases hlies with h | h; exact .inl h; exact .inr (by rw [h]; simp)))
        have HB2 := hide R1.out.2
        have HP2 := hide R1.out.1
        clear hown hgrow hlies R1 hsz1
        have HQ2 : Hid (Pack w.heap.size w2 ([(G0, C0, nums (fun i => i) (k + 1)), (G1, C1, nums (fun _ => 5) (k - 1) ++ [5])] ++ (g2, c2, nums (fun i => i) (k - 1)) :: [(g3, c3, nums (fun i => i + 1) (k - 1))])) := HP2
        have hsz2 := HB2.out.size
        go_wp2_with (at_builtin; refine stopApp ?_)
        refine hide ?_
        refine wpList_append_lies _ rfl _ _ 22 rfl w.heap.size 2 i0 (.int .i64 0) 1 8 Try.underlying22 hi hz0 hz1 hz2 rfl (by decide) _ (k - 1) ((nums (fun i => i) (k - 1)).map (Value.int .i64)) rfl ?own ⟨w2.heap.size, 0, none⟩ 1 1 [.int .i64 ((k - 1 : Nat) : Int)] ?hx rfl ?hnews ?h1 (by decide) ?c3 ?c4 ?c5 (w2.heap.size + 1) ?hH ?_
        case own => have hf := HQ2.out.get; rw [Fresh, nums_len] at hf; exact hf.alloc _
        case hx => rfl
        case hnews => exact one_new _ _ _
        case h1 => exact one_row _ rfl
        case c3 => unfold maxLen; omega
        case c4 => omega
        case c5 => simp; omega
        case hH => simp
        intro G2 C2 w3 hown hgrow hlies _
        have R2 := hide (HQ2.out.push (nums_len _ _) (Nat.le_refl _) HB2.out hown hgrow (by rcases hlies with h | h; exact .inl h; exact .inr (by rw [h]; simp)))
        have HB3 := hide R2.out.2
        have HP3 := hide R2.out.1
        clear hown hgrow hlies R2 hsz2
        have HQ3 : Hid (Pack w.heap.size w3 ([(G0, C0, nums (fun i => i) (k + 1)), (G1, C1, nums (fun _ => 5) (k - 1) ++ [5]), (G2, C2, nums (fun i => i) (k - 1) ++ [((k - 1 : Nat) : Int)])] ++ (g3, c3, nums (fun i => i + 1) (k - 1)) :: [])) := HP3
        have hsz3 := HB3.out.size
        go_wp2_with (at_builtin; refine stopApp ?_)
        refine hide ?_
        refine wpList_append_lies _ rfl _ _ 22 rfl w.heap.size 2 i0 (.int .i64 0) 1 8 Try.underlying22 hi hz0 hz1 hz2 rfl (by decide) _ (k - 1) ((nums (fun i => i + 1) (k - 1)).map (Value.int .i64)) rfl ?own ⟨w3.heap.size, 0, none⟩ 1 1 [.int .i64 (k : Int)] ?hx rfl ?hnews ?h1 (by decide) ?c3 ?c4 ?c5 (w3.heap.size + 1) ?hH ?_
        case own => have hf := HQ3.out.get; rw [Fresh, nums_len] at hf; exact hf.alloc _
        case hx => rfl
        case hnews => exact one_new _ _ _
        case h1 => exact one_row _ rfl
        case c3 => unfold maxLen; omega
        case c4 => omega
        case c5 => simp; omega
        case hH => simp
        intro G3 C3 w4 hown hgrow hlies _
        have R3 := hide (HQ3.out.push (nums_len _ _) (Nat.le_refl _) HB3.out hown hgrow (by rcases hlies with h | h; exact .inl h; exact .inr (by rw [h]; simp)))
        have HB4 := hide R3.out.2
        have HP4 := hide R3.out.1
        clear hown hgrow hlies R3 hsz3
        have HP : Hid (Four w.heap.size w4 (k + 1) G0 C0 G1 C1 G2 C2 G3 C3) := by
          have h := HP4.out
          have e1 : nums (fun _ => 5) (k - 1) ++ [(5 : Int)] = nums (fun _ => 5) (k + 1 - 1) := by rw [show k + 1 - 1 = k - 1 + 1 by omega, nums_succ]; rfl
          have e2 : nums (fun i => i) (k - 1) ++ [((k - 1 : Nat) : Int)] = nums (fun i => i) (k + 1 - 1) := by rw [show k + 1 - 1 = k - 1 + 1 by omega, nums_succ]
          have e3 : nums (fun i => i + 1) (k - 1) ++ [(k : Int)] = nums (fun i => i + 1) (k + 1 - 1) := by rw [show k + 1 - 1 = k - 1 + 1 by omega, nums_succ, show k - 1 + 1 = k by omega]
          rw [e1, e2, e3] at h
          exact h
        have hkk : k - 1 + 1 = k + 1 - 1 := by omega
        clear HP1 HP2 HP3 HP4 HQ0 HQ1 HQ2 HQ3
        set_option maxRecDepth 20000 in go_wp2
        go_roundw
        case rel => exact ⟨k + 1, G0, C0, G1, C1, G2, C2, G3, C3, by omega, by go_num, rfl, by first | rfl | rw [hkk], by first | rfl | rw [hkk], by first | rfl | rw [hkk], HP, HB4.out⟩
        case measure => simp [intOf]; omega
    · obtain rfl : k = N := by omega
      obtain ⟨rE, hE⟩ := playI_singles (n := k) (k - 1) (by omega)
      rw [ch_end hN1] at hE
      have HE := hide hE
      have HBL := hide hbel
      have F0 := HQ.out.row (g0, c0, nums (fun i => i) (k)) (by simp)
      have F1 := HQ.out.row (g1, c1, nums (fun _ => 5) (k - 1)) (by simp)
      have F2 := HQ.out.row (g2, c2, nums (fun i => i) (k - 1)) (by simp)
      have F3 := HQ.out.row (g3, c3, nums (fun i => i + 1) (k - 1)) (by simp)
      replace F0 := hide F0.ints
      replace F1 := hide F1.ints
      replace F2 := hide F2.ints
      replace F3 := hide F3.ints
      rw [nums_len] at F0 F1 F2 F3
      clear hE hbel HQ
      go_wp2_with fail
      refine (script_any _ _ _ _ (nums (fun i => i) k) (nums (fun _ => 5) (k - 1)) (nums (fun i => i) (k - 1)) (nums (fun i => i + 1) (k - 1)) _ rE _ F0.out F1.out F2.out F3.out (by rw [nums_len]; omega) (by rw [nums_len]; omega) (ids_ok k) (by rw [nums_len, nums_len]) (by rw [nums_len, nums_len]) (by rw [nums_len]; exact HE.out)).mono ?_
      rw [nums_len]
      rintro e w2 ⟨hb2, v1, v2, v3, rfl, hf1, hf2, hr3⟩
      have H1 := hide hf1
      have H2 := hide hf2
      have HB2 := hide (HBL.out.trans (hb2.mono HBL.out.size))
      obtain ⟨A1, c1, rfl⟩ := hf1.form (nums_len _ _)
      obtain ⟨A2, c2, rfl⟩ := hf2.form (nums_len _ _)
      obtain ⟨g5, c5, rfl, _, _, _⟩ := hr3.form rfl
      have hkk : ((k : Int) == (k : Int)) = true := by simp
      clear hb2 hf1 hf2 hr3
      go_wp2_with fail
      refine (ringNew_any k _ hN1 (by omega)).mono ?_
      rintro e w3 ⟨v6, rfl, hf6, hb3⟩
      obtain ⟨A6, c6, rfl⟩ := hf6.form (nums_len _ _)
      have H6 := hide hf6
      replace H1 := hide (H1.out.below hb3)
      replace H2 := hide (H2.out.below hb3)
      replace HB2 := hide (HB2.out.trans (hb3.mono HB2.out.size))
      clear hf6 hb3
      go_wp2_with fail
      refine (same_true _ _ (nums (sucN k) k) _ H1.out.ints H6.out.ints (by rw [nums_len]; omega)).mono ?_
      rintro e w4 ⟨rfl, hb3⟩
      replace H1 := hide (H1.out.below hb3)
      replace H2 := hide (H2.out.below hb3)
      replace HB2 := hide (HB2.out.trans (hb3.mono HB2.out.size))
      clear hb3 H6
      go_wp2_with fail
      refine (backward_any _ (nums (sucN k) k) _ H1.out.ints (by rw [nums_len]; omega) (nums_ok (perm_new k hN1))).mono ?_
      rw [nums_len]
      rintro e w5 ⟨v7, rfl, hf7, hb3⟩
      obtain ⟨A7, c7, rfl⟩ := hf7.form (nums_len _ _)
      have H7 := hide hf7
      replace H2 := hide (H2.out.below hb3)
      replace HB2 := hide (HB2.out.trans (hb3.mono HB2.out.size))
      clear hf7 hb3
      go_wp2_with fail
      refine (same_true _ _ _ _ H2.out.ints H7.out.ints (by rw [nums_len]; omega)).mono ?_
      rintro e w6 ⟨rfl, hb3⟩
      replace HB2 := hide (HB2.out.trans (hb3.mono HB2.out.size))
      clear hb3
      go_wp2
      go_ret
      exact ⟨rfl, HB2.out⟩

end Go.Proofs.Ytpdimdpphbobiaa
