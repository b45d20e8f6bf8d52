/-
  FnRingScriptDo. Printed by dogen.py.
-/
import Derived.Test.YtpdimdpphbobiaaPack
namespace Go.Proofs.Ytpdimdpphbobiaa
open Go.RowKit

section
variable {ks ls bs zs ks2 ls2 bs2 z : List Int} {r : List (List Int)}
theorem getD_app {xs ys : List Int} {n : Nat} (h : n < xs.length) : (xs ++ ys).getD n 0 = xs.getD n 0 := by simp [List.getD, List.getElem?_append_left h]
theorem getD_app2 {xs ys : List Int} {m n : Nat} (h : xs.length = m) : (xs ++ ys).getD (m + n) 0 = ys.getD n 0 := by
  subst h
  simp [List.getD, List.getElem?_append_right]
theorem playI_app (hla : ls.length = ks.length) (hlb : bs.length = ks.length) : ∀ n, n ≤ ks.length → playI (ks ++ ks2) (ls ++ ls2) (bs ++ bs2) zs n = playI ks ls bs zs n
  | 0, _ => rfl
  | n + 1, h => by rw [playI, playI, playI_app hla hlb n (by omega), getD_app (by omega), getD_app (by omega), getD_app (by omega)]
theorem playI_dos {M : Nat} (hla : ls.length = ks.length) (hlb : bs.length = ks.length) (hE : playI ks ls bs zs ks.length = some (z, r)) (hM : M ≤ z.length) :
    ∀ j, j ≤ M → playI (ks ++ nums (fun _ => 4) M) (ls ++ nums (fun i => i) M) (bs ++ nums (fun _ => 0) M) zs (ks.length + j) = some (z, r ++ (List.range j).map (cycI z))
  | 0, _ => by rw [Nat.add_zero, playI_app hla hlb _ (Nat.le_refl _), hE]; simp
  | j + 1, h => by
    have ih := playI_dos hla hlb hE hM j (by omega)
    rw [List.range_succ, List.map_append, ← List.append_assoc]
    refine playI_go (n := ks.length + j) ih ?_
    rw [getD_app2 rfl, getD_app2 hla, getD_app2 hlb, nums_get _ _ _ (by omega), nums_get _ _ _ (by omega), nums_get _ _ _ (by omega)]
    show stepI z 4 (j : Int) 0 = _
    rw [stepI_4 (by omega)]
end

/-- The three slices behind j rounds. -/
def Three (B : Nat) (w : World) (ks ls bs : List Int) (j g0 c0 g1 c1 g2 c2 : Nat) : Prop := Pack B w [(g0, c0, ks ++ nums (fun _ => 4) j), (g1, c1, ls ++ nums (fun i => i) j), (g2, c2, bs ++ nums (fun _ => 0) j)]

set_option maxHeartbeats 4000000 in
theorem fnRingScriptDo_any (v : Value) (zs : List Int) (vk : Value) (ks : List Int) (va : Value) (ls : List Int) (vb : Value) (bs : List Int) (w : World) (hv : Ints w v zs) (hN0 : zs.length ≤ 1048576) (hk : Ints w vk ks) (hK0 : ks.length ≤ 1048576) (ha : Ints w va ls) (_ : ls.length ≤ 1048576) (hb : Ints w vb bs) (_ : bs.length ≤ 1048576) :
    Calls Try.prog 3 #[v, vk, va, vb] w fun e w' => e = .returned (.bool true) ∧ Below w.heap.size w w' := by
  obtain ⟨i0, hi, hz0, hz1, hz2⟩ := info_parts info_int
  have HV := hide hv
  have HK := hide hk
  have HA := hide ha
  have HB := hide hb
  clear hv hk ha hb
  go_enter Try.func3, Try.ntmps3
  go_wp2_with fail
  refine (played_any _ _ _ _ zs ks ls bs _ HV.out HK.out HA.out HB.out (by omega) (by omega)).mono ?_
  rintro e w1 ⟨hb1, ⟨_, rfl⟩ | ⟨z, r, v1, v2, hpl, rfl, hf, hr⟩⟩
  · go_wp2
    go_ret
    exact ⟨rfl, hb1⟩
  · obtain ⟨hok, hla, hlb, hE⟩ := playedI_some hpl
    obtain ⟨o1, o2, o3⟩ := playI_ok hok hE
    have HO := hide hok
    have HLA := hide hla
    have HLB := hide hlb
    have HE := hide hE
    have HOZ := hide o1
    have HLZ := hide o2
    have HF := hide hf
    have HB1 := hide hb1
    have HLR := hide o3
    obtain ⟨A1, c1, rfl⟩ := hf.form o2
    obtain ⟨g2, c2, rfl, _, _, _⟩ := hr.form o3
    obtain ⟨Az, cz, rfl⟩ := HV.out.form rfl
    obtain ⟨Ak, ck, rfl⟩ := HK.out.form rfl
    obtain ⟨Aa, ca, rfl⟩ := HA.out.form hla
    obtain ⟨Ab, cb, rfl⟩ := HB.out.form hlb
    clear hpl hok hla hlb hE o1 o2 o3 hf hr hb1
    have HQ0 : Hid (Pack w1.heap.size w1 []) := Pack.nil _ _
    have HL0 : Hid (Below w1.heap.size w1 w1) := Below.refl _ _
    have HS0 := hide (HQ0.out.start HL0.out.size)
    have HT0 := hide (HL0.out.alloc HL0.out.size (.cells #[] 2))
    have HI0 : Hid (Ints (w1.alloc (.cells #[] 2)) (.slice Ak ks.length ck) ks) := hide (HK.out.below (HB1.out.trans (HT0.out.mono HB1.out.size)))
    have hsz0 := HT0.out.size
    go_wp2_with (at_builtin; refine stopApp ?_)
    refine hide ?_
    refine wpList_append_copy _ rfl _ _ 22 rfl w1.heap.size 2 i0 (.int .i64 0) 1 8 Try.underlying22 hi hz0 hz1 hz2 rfl (by decide) w1.heap.size rfl ?own Ak ks.length ck (ks.map (Value.int .i64)) rfl (ints_src HI0.out).1 ?hl (ints_src HI0.out).2 ?h1 ?c3 ?c4 ?c5 ?_
    case own => exact HS0.out.get
    case hl => rw [List.length_map, Nat.mul_one]
    case h1 => intro u hu; simp at hu; obtain ⟨n, _, rfl⟩ := hu; rfl
    case c3 => unfold maxLen; omega
    case c4 => omega
    case c5 => exact hsz0
    intro G0 C0 wA hown hgrow hlies
    have hown2 : wA.ownsRow w1.heap.size 2 1 (.slice (some ⟨G0, 0, none⟩) (0 + ks.length) C0) (0 + ks.length) (([] : List Int).map (Value.int .i64) ++ ks.map (Value.int .i64)) := by rw [Nat.zero_add]; exact hown
    have R0 := hide (Pack.grow (l2 := []) (ys := ks) HS0.out rfl rfl (Nat.le_refl _) HT0.out hown2 hgrow hlies)
    have HQ1 : Hid (Pack w1.heap.size wA [(G0, C0, ks)]) := R0.out.1
    have HL1 := hide R0.out.2
    clear hown hown2 hgrow hlies R0 hsz0 HS0 HT0 HI0
    have HS1 := hide (HQ1.out.start HL1.out.size)
    have HT1 := hide (HL1.out.alloc HL1.out.size (.cells #[] 2))
    have HI1 : Hid (Ints (wA.alloc (.cells #[] 2)) (.slice Aa ks.length ca) ls) := hide (HA.out.below (HB1.out.trans (HT1.out.mono HB1.out.size)))
    have hsz1 := HT1.out.size
    go_wp2_with (at_builtin; refine stopApp ?_)
    refine hide ?_
    refine wpList_append_copy _ rfl _ _ 22 rfl w1.heap.size 2 i0 (.int .i64 0) 1 8 Try.underlying22 hi hz0 hz1 hz2 rfl (by decide) wA.heap.size rfl ?own Aa ks.length ca (ls.map (Value.int .i64)) rfl (ints_src HI1.out).1 ?hl (ints_src HI1.out).2 ?h1 ?c3 ?c4 ?c5 ?_
    case own => exact (HS1.out.row (wA.heap.size, 0, []) (by simp))
    case hl => rw [List.length_map, Nat.mul_one]; exact HLA.out
    case h1 => intro u hu; simp at hu; obtain ⟨n, _, rfl⟩ := hu; rfl
    case c3 => unfold maxLen; omega
    case c4 => omega
    case c5 => exact hsz1
    intro G1 C1 wB hown hgrow hlies
    have hown2 : wB.ownsRow w1.heap.size 2 1 (.slice (some ⟨G1, 0, none⟩) (0 + ks.length) C1) (0 + ks.length) (([] : List Int).map (Value.int .i64) ++ ls.map (Value.int .i64)) := by rw [Nat.zero_add]; exact hown
    have R1 := hide (Pack.grow (l2 := []) (ys := ls) HS1.out rfl HLA.out (Nat.le_refl _) HT1.out hown2 hgrow hlies)
    have HQ2 : Hid (Pack w1.heap.size wB [(G0, C0, ks), (G1, C1, ls)]) := R1.out.1
    have HL2 := hide R1.out.2
    clear hown hown2 hgrow hlies R1 hsz1 HS1 HT1 HI1
    have HS2 := hide (HQ2.out.start HL2.out.size)
    have HT2 := hide (HL2.out.alloc HL2.out.size (.cells #[] 2))
    have HI2 : Hid (Ints (wB.alloc (.cells #[] 2)) (.slice Ab ks.length cb) bs) := hide (HB.out.below (HB1.out.trans (HT2.out.mono HB1.out.size)))
    have hsz2 := HT2.out.size
    go_wp2_with (at_builtin; refine stopApp ?_)
    refine hide ?_
    refine wpList_append_copy _ rfl _ _ 22 rfl w1.heap.size 2 i0 (.int .i64 0) 1 8 Try.underlying22 hi hz0 hz1 hz2 rfl (by decide) wB.heap.size rfl ?own Ab ks.length cb (bs.map (Value.int .i64)) rfl (ints_src HI2.out).1 ?hl (ints_src HI2.out).2 ?h1 ?c3 ?c4 ?c5 ?_
    case own => exact (HS2.out.row (wB.heap.size, 0, []) (by simp))
    case hl => rw [List.length_map, Nat.mul_one]; exact HLB.out
    case h1 => intro u hu; simp at hu; obtain ⟨n, _, rfl⟩ := hu; rfl
    case c3 => unfold maxLen; omega
    case c4 => omega
    case c5 => exact hsz2
    intro G2 C2 wC hown hgrow hlies
    have hown2 : wC.ownsRow w1.heap.size 2 1 (.slice (some ⟨G2, 0, none⟩) (0 + ks.length) C2) (0 + ks.length) (([] : List Int).map (Value.int .i64) ++ bs.map (Value.int .i64)) := by rw [Nat.zero_add]; exact hown
    have R2 := hide (Pack.grow (l2 := []) (ys := bs) HS2.out rfl HLB.out (Nat.le_refl _) HT2.out hown2 hgrow hlies)
    have HQ3 : Hid (Pack w1.heap.size wC [(G0, C0, ks), (G1, C1, ls), (G2, C2, bs)]) := R2.out.1
    have HL3 := hide R2.out.2
    clear hown hown2 hgrow hlies R2 hsz2 HS2 HT2 HI2
    set_option maxRecDepth 20000 in go_wp2
    go_loopw [12, 13, 14, 15] (fun s0 s1 s2 i wr => ∃ j g0 c0 g1 c1 g2 c2 : Nat, j ≤ zs.length ∧ i = .int .i64 j ∧ s0 = .slice (some ⟨g0, 0, none⟩) (ks.length + j) c0 ∧ s1 = .slice (some ⟨g1, 0, none⟩) (ks.length + j) c1 ∧ s2 = .slice (some ⟨g2, 0, none⟩) (ks.length + j) c2 ∧ Hid (Three w1.heap.size wr ks ls bs j g0 c0 g1 c1 g2 c2) ∧ Hid (Below w1.heap.size w1 wr)) (fun _ _ _ i _ => zs.length - (intOf i).toNat)
    case atStart =>
      have e3 : ∀ xs : List Int, ∀ f : Nat → Nat, xs ++ nums f 0 = xs := fun xs f => by simp [nums]
      refine ⟨0, G0, C0, G1, C1, G2, C2, Nat.zero_le _, rfl, rfl, rfl, rfl, ?_, HL3⟩
      show Three _ _ _ _ _ _ _ _ _ _ _ _
      unfold Three
      rw [e3, e3, e3]
      exact HQ3.out
    case round =>
      obtain ⟨j, g0, c0, g1, c1, g2, c2, hj, rfl, rfl, rfl, rfl, HQ, HL⟩ := hrel
      clear HQ1 HQ2 HQ3 HL1 HL2 HL3 HQ0 HL0
      by_cases hlt : j < zs.length
      · have HLN : Hid (ks.length = ks.length ∧ ls.length = ks.length ∧ bs.length = ks.length) := ⟨rfl, HLA.out, HLB.out⟩
        have HB0 := HL
        have HP0 : Hid (Pack w1.heap.size wr ([] ++ (g0, c0, ks ++ nums (fun _ => 4) j) :: [(g1, c1, ls ++ nums (fun i => i) j), (g2, c2, bs ++ nums (fun _ => 0) j)])) := HQ
        have hsz0 := HB0.out.size
        have HLE0 : Hid ((ks ++ nums (fun _ => 4) j).length = ks.length + j) := hide (by rw [List.length_append, nums_len, HLN.out.1])
        go_wp2_with (at_builtin; refine stopApp ?_)
        refine hide ?_
        refine wpList_append_lies _ rfl _ _ 22 rfl w1.heap.size 2 i0 (.int .i64 0) 1 8 Try.underlying22 hi hz0 hz1 hz2 rfl (by decide) _ (ks.length + j) ((ks ++ nums (fun _ => 4) j).map (Value.int .i64)) rfl ?own ⟨wr.heap.size, 0, none⟩ 1 1 [.int .i64 4] ?hx rfl ?hnews ?h1 (by decide) ?c3 ?c4 ?c5 (wr.heap.size + 1) ?hH ?_
        case own => have hf := HP0.out.get; rw [Fresh, HLE0.out] at hf; exact hf.alloc _
        case hx => rfl
        case hnews => exact one_new _ _ _
        case h1 => exact one_row _ rfl
        case c3 => unfold maxLen; omega
        case c4 => omega
        case c5 => simp; omega
        case hH => simp
        intro G0 C0 x1 hown hgrow hlies _
        have R0 := hide (HP0.out.push HLE0.out (Nat.le_refl _) HB0.out hown hgrow (by rcases hlies with h | h; exact .inl h; exact .inr (by rw [h]; simp)))
        have HB1 := hide R0.out.2
        have HR1 := hide R0.out.1
        clear hown hgrow hlies R0 hsz0 HLE0
        have HP1 : Hid (Pack w1.heap.size x1 ([(G0, C0, ks ++ nums (fun _ => 4) j ++ [4])] ++ (g1, c1, ls ++ nums (fun i => i) j) :: [(g2, c2, bs ++ nums (fun _ => 0) j)])) := HR1
        have hsz1 := HB1.out.size
        have HLE1 : Hid ((ls ++ nums (fun i => i) j).length = ks.length + j) := hide (by rw [List.length_append, nums_len, HLN.out.2.1])
        go_wp2_with (at_builtin; refine stopApp ?_)
        refine hide ?_
        refine wpList_append_lies _ rfl _ _ 22 rfl w1.heap.size 2 i0 (.int .i64 0) 1 8 Try.underlying22 hi hz0 hz1 hz2 rfl (by decide) _ (ks.length + j) ((ls ++ nums (fun i => i) j).map (Value.int .i64)) rfl ?own ⟨x1.heap.size, 0, none⟩ 1 1 [.int .i64 (j : Int)] ?hx rfl ?hnews ?h1 (by decide) ?c3 ?c4 ?c5 (x1.heap.size + 1) ?hH ?_
        case own => have hf := HP1.out.get; rw [Fresh, HLE1.out] at hf; exact hf.alloc _
        case hx => rfl
        case hnews => exact one_new _ _ _
        case h1 => exact one_row _ rfl
        case c3 => unfold maxLen; omega
        case c4 => omega
        case c5 => simp; omega
        case hH => simp
        intro G1 C1 x2 hown hgrow hlies _
        have R1 := hide (HP1.out.push HLE1.out (Nat.le_refl _) HB1.out hown hgrow (by rcases hlies with h | h; exact .inl h; exact .inr (by rw [h]; simp)))
        have HB2 := hide R1.out.2
        have HR2 := hide R1.out.1
        clear hown hgrow hlies R1 hsz1 HLE1
        have HP2 : Hid (Pack w1.heap.size x2 ([(G0, C0, ks ++ nums (fun _ => 4) j ++ [4]), (G1, C1, ls ++ nums (fun i => i) j ++ [(j : Int)])] ++ (g2, c2, bs ++ nums (fun _ => 0) j) :: [])) := HR2
        have hsz2 := HB2.out.size
        have HLE2 : Hid ((bs ++ nums (fun _ => 0) j).length = ks.length + j) := hide (by rw [List.length_append, nums_len, HLN.out.2.2])
        go_wp2_with (at_builtin; refine stopApp ?_)
        refine hide ?_
        refine wpList_append_lies _ rfl _ _ 22 rfl w1.heap.size 2 i0 (.int .i64 0) 1 8 Try.underlying22 hi hz0 hz1 hz2 rfl (by decide) _ (ks.length + j) ((bs ++ nums (fun _ => 0) j).map (Value.int .i64)) rfl ?own ⟨x2.heap.size, 0, none⟩ 1 1 [.int .i64 0] ?hx rfl ?hnews ?h1 (by decide) ?c3 ?c4 ?c5 (x2.heap.size + 1) ?hH ?_
        case own => have hf := HP2.out.get; rw [Fresh, HLE2.out] at hf; exact hf.alloc _
        case hx => rfl
        case hnews => exact one_new _ _ _
        case h1 => exact one_row _ rfl
        case c3 => unfold maxLen; omega
        case c4 => omega
        case c5 => simp; omega
        case hH => simp
        intro G2 C2 x3 hown hgrow hlies _
        have R2 := hide (HP2.out.push HLE2.out (Nat.le_refl _) HB2.out hown hgrow (by rcases hlies with h | h; exact .inl h; exact .inr (by rw [h]; simp)))
        have HB3 := hide R2.out.2
        have HR3 := hide R2.out.1
        clear hown hgrow hlies R2 hsz2 HLE2
        have HT : Hid (Three w1.heap.size x3 ks ls bs (j + 1) G0 C0 G1 C1 G2 C2) := by
          show Three _ _ _ _ _ _ _ _ _ _ _ _
          unfold Three
          rw [nums_succ, nums_succ, nums_succ, ← List.append_assoc, ← List.append_assoc, ← List.append_assoc]
          exact HR3.out
        clear HP0 HP1 HP2 HR1 HR2 HR3 HB0 HB1 HB2 HLN
        set_option maxRecDepth 20000 in go_wp2
        go_roundw
        case rel => exact ⟨j + 1, G0, C0, G1, C1, G2, C2, by omega, by go_num, rfl, rfl, rfl, HT, HB3⟩
        case measure => simp [intOf]; omega
      · obtain rfl : j = zs.length := by omega
        have HD := hide (playI_dos (M := zs.length) HLA.out HLB.out HE.out (by rw [HLZ.out]; exact Nat.le_refl _) zs.length (Nat.le_refl _))
        have F0 := hide (HQ.out.row (g0, c0, ks ++ nums (fun _ => 4) zs.length) (by simp)).ints
        have E0 : Hid ((ks ++ nums (fun _ => 4) zs.length).length = ks.length + zs.length) := hide (by rw [List.length_append, nums_len])
        rw [show ((g0, c0, ks ++ nums (fun _ => 4) zs.length) : Nat × Nat × List Int).2.2.length = ks.length + zs.length from E0.out] at F0
        have F1 := hide (HQ.out.row (g1, c1, ls ++ nums (fun i => i) zs.length) (by simp)).ints
        have E1 : Hid ((ls ++ nums (fun i => i) zs.length).length = ks.length + zs.length) := hide (by rw [List.length_append, nums_len, HLA.out])
        rw [show ((g1, c1, ls ++ nums (fun i => i) zs.length) : Nat × Nat × List Int).2.2.length = ks.length + zs.length from E1.out] at F1
        have F2 := hide (HQ.out.row (g2, c2, bs ++ nums (fun _ => 0) zs.length) (by simp)).ints
        have E2 : Hid ((bs ++ nums (fun _ => 0) zs.length).length = ks.length + zs.length) := hide (by rw [List.length_append, nums_len, HLB.out])
        rw [show ((g2, c2, bs ++ nums (fun _ => 0) zs.length) : Nat × Nat × List Int).2.2.length = ks.length + zs.length from E2.out] at F2
        have HBW := hide (HB1.out.trans (HL.out.mono HB1.out.size))
        have HLRR : Hid ((r ++ (List.range zs.length).map (cycI z)).length = ks.length + zs.length) := hide (by rw [List.length_append, HLR.out, List.length_map, List.length_range])
        replace HF := hide (HF.out.below HL.out)
        clear HQ
        go_wp2_with fail
        refine (script_any _ _ _ _ zs _ _ _ z _ _ (HV.out.below HBW.out) F0.out F1.out F2.out (by omega) (by rw [E0.out]; omega) HO.out (by rw [E1.out, E0.out]) (by rw [E2.out, E0.out]) (by rw [E0.out]; exact HD.out)).mono ?_
        rintro e w2 ⟨hb2, v3, v4, v5, rfl, hf3, hf4, hr5⟩
        replace HF := hide (HF.out.below hb2)
        replace HBW := hide (HBW.out.trans (hb2.mono HBW.out.size))
        have HF3 := hide hf3
        have HR5 := hide hr5
        obtain ⟨A3, c3, rfl⟩ := hf3.form HLZ.out
        obtain ⟨A4, c4, rfl⟩ := hf4.form (nums_len _ _)
        obtain ⟨g5, c5, rfl, hg5, _, _⟩ := hr5.form HLRR.out
        have hnn : (((ks.length + zs.length : Nat) : Int) != ((ks.length + zs.length : Nat) : Int)) = false := by simp
        clear hb2 hf3 hf4 hr5 F0 F1 F2 HD
        go_wp2_with fail
        refine (same_true _ _ z _ HF3.out.ints HF.out.ints (by rw [HLZ.out]; omega)).mono ?_
        rintro e w3 ⟨rfl, hb3⟩
        replace HF := hide (HF.out.below hb3)
        replace HR5 := hide (HR5.out.below hb3)
        replace HBW := hide (HBW.out.trans (hb3.mono HBW.out.size))
        have hg6 := Nat.lt_of_lt_of_le hg5 hb3.size
        clear hb3 HF3 hg5
        set_option maxRecDepth 20000 in go_wp2
        go_loopw [19] (fun i wr => ∃ j : Nat, j ≤ zs.length ∧ i = .int .i64 j ∧ Below w3.heap.size w3 wr) (fun i _ => zs.length - (intOf i).toNat)
        case atStart => exact ⟨0, Nat.zero_le _, rfl, Below.refl _ _⟩
        case round =>
          obtain ⟨j, hj, rfl, hbel⟩ := hrel
          by_cases hlt : j < zs.length
          · have hget : (r ++ (List.range zs.length).map (cycI z))[ks.length + j]? = some (cycI z j) := by
              rw [← HLR.out, List.getElem?_append_right (by omega), Nat.add_sub_cancel_left, List.getElem?_map, List.getElem?_range hlt]
              rfl
            obtain ⟨s1, d1, f1⟩ := (HR5.out.below hbel).get hget
            obtain ⟨As, cs, rfl⟩ := f1.form (cycI_len z j)
            have hjz : j < z.length := by rw [HLZ.out]; exact hlt
            have HFS := hide (f1.ints.below (Below.refl _ _).drew)
            have HFZ := hide ((HF.out.below hbel).ints.below (Below.refl _ _).drew)
            have hgr := Nat.lt_of_lt_of_le hg6 hbel.size
            have hwr : IntKind.i64.wrap ((ks.length : Int) + (j : Int)) = ((ks.length + j : Nat) : Int) := by rw [IntWalk.i64_in _ (by omega)]; omega
            have q1 : (0 : Int) ≤ ((ks.length + j : Nat) : Int) := by omega
            have q2 : ((ks.length + j : Nat) : Int) < ((ks.length + zs.length : Nat) : Int) := by omega
            have HB := hide hbel
            have hl1 : len z j ≤ 4611686018427387904 := by have := HOZ.out.len_le hjz; rw [HLZ.out] at this; omega
            clear hget f1 hbel
            go_wp2_with fail
            go_region_with (first
              | (go_at_call 11; refine (cycle_any _ z j _ HFZ.out (by rw [HLZ.out]; omega) HOZ.out hjz).mono ?_; rintro e y1 ⟨vC, rfl, hf, hy⟩; obtain ⟨AC, cC, rfl⟩ := hf.form (cycI_len z j); have d2 := (hy.cell (p := ⟨g5, ks.length + j, none⟩) hgr).trans d1; have HC := hide hf; have HY := hide hy; clear hf hy)
              | (go_at_call 10; refine (same_true _ _ (cycI z j) _ (HFS.out.below HY.out) HC.out.ints (by rw [cycI_len]; exact hl1)).mono ?_; rintro e y2 ⟨rfl, hy2⟩))
            all_goals
              set_option maxRecDepth 20000 in go_wp2
              go_roundw
              case rel => exact ⟨j + 1, by omega, by go_num, HB.out.trans (((Below.refl _ _).drew.trans (HY.out.trans (hy2.mono HY.out.size))).mono HB.out.size)⟩
              case measure => simp [intOf]; omega
          · set_option maxRecDepth 20000 in go_wp2
            go_ret
            exact ⟨rfl, HBW.out.trans (hbel.mono HBW.out.size)⟩

end Go.Proofs.Ytpdimdpphbobiaa
