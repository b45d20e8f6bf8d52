/-
  build: the walk.
-/
import Derived.Test.YtpdimdpphbobiaaBuild1
namespace Go.Proofs.Ytpdimdpphbobiaa
open Go.RowKit

/-- The outer loop's relation. -/
def Outer (w : World) (zs : List Int) (k : Nat) (wr : World) : Prop := ∃ ad D, Bd w wr zs w.heap.size ad D ∧ ∀ j, j < k → D j = true

/-- The inner loop's relation: j elements of the ring of i have been numbered; x comes next, at r. -/
def Inner (w : World) (zs : List Int) (ad : Nat → Nat) (D : Nat → Bool) (i B1 j x r : Nat) (wr : World) : Prop :=
  j ≤ len zs i ∧ orb zs i j = x ∧ r = B1 + (if j < len zs i then j else 0) ∧ Fl w wr zs w.heap.size ad D i (len zs i) B1 j

set_option maxHeartbeats 1000000 in
theorem build_any (v : Value) (zs : List Int) (w : World) (hv : Ints w v zs) (hN : zs.length * 8 ≤ 140737488351232) (hok : RingsOk zs) :
    Calls Try.prog 27 #[v] w fun e w' => e = .returned (.slice (some ⟨w.heap.size, 0, none⟩) zs.length zs.length) ∧
      ∃ ad, RingV w' zs.length ad (nx zs) (pv zs) numV ∧ (∀ k, k < zs.length → w.heap.size < ad k) ∧ w'.rowIs w.heap.size 43 zs.length (fun k => .pointer (some ⟨ad k, 0, none⟩)) ∧ Below w.heap.size w w' := by
  obtain ⟨A, c, rfl⟩ := hv.form rfl
  have hc := hide hv.open_.2.2.2
  have HO := hide hok
  have HST := hide (bd_start w zs)
  obtain ⟨n, hn⟩ : ∃ n, zs.length = n := ⟨_, rfl⟩
  have HN := hide hn
  have hmk := run_make_row' (P := Try.prog) 41 43 (.pointer none) 8 Try.underlying41 info_ptr rfl .i64 .i64 n (by omega) (by omega)
  rw [hn] at hc hN HST ⊢
  clear hv hn hok
  go_enter Try.func27, Try.ntmps27
  go_wp2
  go_loopw [14] (fun i wr => ∃ k : Nat, k ≤ n ∧ i = .int .i64 k ∧ Outer w zs k wr) (fun i _ => n - (intOf i).toNat)
  case atStart => exact ⟨0, Nat.zero_le _, rfl, _, _, HST.out, fun j hj => absurd hj (by omega)⟩
  case round =>
    obtain ⟨k, hk, rfl, hout⟩ := hrel
    clear hmk HST
    by_cases hlt : k < n
    · obtain ⟨ad, D, hbd, hdone⟩ := hout
      obtain ⟨b, off, rfl, hb, hcell⟩ := hc.out (by omega)
      have hkz : k < zs.length := by rw [HN.out]; exact hlt
      have hrow := hbd.row.cell hkz
      cases hD : D k with
      | true =>
        simp only [hD, if_true] at hrow
        have R : Hid (Outer w zs (k + 1) wr) := ⟨ad, D, hbd, fun j hj => by
          rcases Nat.lt_or_ge j k with h | h
          · exact hdone j h
          · obtain rfl : j = k := by omega
            exact hD⟩
        clear hbd hcell hdone hD
        go_wp2
        go_roundw
        case rel => exact ⟨k + 1, by omega, by go_num, R.out⟩
        case measure => simp [intOf]; omega
      | false =>
        simp only [hD] at hrow
        simp only [Bool.false_eq_true, if_false] at hrow
        have hcx : Hid (∀ j, j < n → wr.cell? ⟨b, off + j, none⟩ = some (.int .i64 (nx zs j : Int))) := fun j hj => by
          rw [hbd.bel.cell (p := ⟨b, off + j, none⟩) hb, hcell j hj, HO.out.nx_eq (by rw [HN.out]; exact hj)]
        have hck := hcx.out k hlt
        have hpe := HO.out.perm.per hkz
        obtain ⟨p, hp⟩ : ∃ p, len zs k = p := ⟨_, rfl⟩
        have HL := hide hp
        unfold len at hp
        rw [hp] at hpe
        have hp0 := hpe.pos
        have hpn : p ≤ n := by have := hpe.le; rw [HN.out] at this; exact this
        have HP := hide hpe
        have HBD := hide hbd
        have HDN := hide hdone
        have HDK := hide hD
        have HCC := hide hcell
        have hnl : ∀ j, j < n → nx zs j < n := fun j hj => by
          have := HO.out.nx_lt (i := j) (by rw [HN.out]; exact hj)
          rw [HN.out] at this
          exact this
        have HNL := hide hnl
        clear hbd hdone hcell hp hpe hD hnl
        obtain ⟨wo, rfl⟩ : ∃ wo : World, wo = wr := ⟨_, rfl⟩
        go_wp2
        go_loop [5, 6] (fun m kk => ∃ j x : Nat, 0 < j ∧ j ≤ p ∧ x < n ∧ Hid (orb zs k j = x) ∧ m = .int .i64 j ∧ kk = .int .i64 x) (fun m _ => p - (intOf m).toNat)
        case atStart => exact ⟨1, nx zs k, by omega, by omega, HNL.out k hlt, rfl, rfl, rfl⟩
        case round =>
          obtain ⟨j, x, hj0, hjp, hx, hjx, rfl, rfl⟩ := hrel
          by_cases hj : j = p
          · obtain rfl : k = x := by rw [← hjx.out, hj]; exact HP.out.back.symm
            obtain rfl : p = j := hj.symm
            have hne : ((k : Int) != (k : Int)) = false := by simp
            go_wp2_with fail
            refine (new_any p _ hp0 (by omega)).mono ?_
            rintro e w1 ⟨rfl, hr1, hsz1, hb1⟩
            have hLo : w.heap.size < wo.heap.size := HBD.out.row.lt
            have hst : Inner w zs ad D k wo.heap.size 0 k wo.heap.size w1 := by
              refine ⟨Nat.zero_le _, rfl, by rw [if_pos (by rw [HL.out]; exact hp0)]; rfl, ?_⟩
              exact fill_start HBD.out (by rw [HL.out]; exact hr1) hb1
            have HS := hide hst
            have hadB : ∀ q, q < zs.length → D q = true → w.heap.size < ad q ∧ ad q < wo.heap.size := fun q hq hd => ⟨HBD.out.gt q hq hd, (HBD.out.blk q hq hd).lt⟩
            have HAB := hide hadB
            clear hr1 hsz1 hb1 hst hadB hck hrow hne
            go_wp2
            go_loopg [7, 8] p (fun gk rr kk wr => ∃ j x r : Nat, gk + j = p ∧ x < n ∧ rr = .pointer (some ⟨r, 0, none⟩) ∧ kk = .int .i64 x ∧ Hid (Inner w zs ad D k wo.heap.size j x r wr))
            case atStart => exact ⟨0, k, wo.heap.size, rfl, hlt, rfl, rfl, HS⟩
            case round =>
              obtain ⟨j, x, r, hgj, hx, rfl, rfl, hin⟩ := hrel
              clear HS
              obtain ⟨hjl, hjx, hr, hfl⟩ := hin.out
              rw [HL.out] at hjl hr
              have hxz : x < zs.length := by rw [HN.out]; exact hx
              have hrow := hfl.row.cell hxz
              by_cases hj : j = p
              · obtain rfl : k = x := by rw [← hjx, hj]; exact HP.out.back.symm
                have hto : inTo zs k j k = true := (inTo_iff _ _ _ _).2 ⟨0, by omega, rfl⟩
                have hto' : inTo zs k (len zs k) k = true := (inTo_iff _ _ _ _).2 ⟨0, by rw [HL.out]; exact hp0, rfl⟩
                simp only [HDK.out, hto] at hrow
                simp only [Bool.false_eq_true, if_false, if_true] at hrow
                have hfl' : Fl w wr zs w.heap.size ad D k (len zs k) wo.heap.size (len zs k) := by rw [HL.out] at hfl ⊢; rw [hj] at hfl; exact hfl
                have hdn := fill_done hfl' HBD.out HO.out hxz HDK.out hLo (fun q hq hd => (HAB.out q hq hd).2)
                have R : Hid (Outer w zs (k + 1) wr) := ⟨_, _, hdn, fun q hq => by
                  rcases Nat.lt_or_ge q k with h | h
                  · rw [HDN.out q h]; rfl
                  · rw [show q = k by omega, hto', Bool.or_true]⟩
                generalize wo.heap.size + idx zs k (len zs k) k = q at hrow
                clear hfl hfl' hdn hto hto' hjx hr hj
                go_wp2
                go_roundw
                case rel => exact ⟨k + 1, by omega, by go_num, R.out⟩
                case measure => simp [intOf]; omega
              · have hjp : j < p := by omega
                have hDx : D x = false := by rw [← hjx]; exact not_done HBD.out HO.out hkz HDK.out j (by rw [HL.out]; exact hjp)
                have hnt : inTo zs k j x = false := by
                  cases h : inTo zs k j x with
                  | false => rfl
                  | true =>
                    obtain ⟨m, hm, e⟩ := (inTo_iff _ _ _ _).1 h
                    rw [← hjx] at e
                    exact absurd e (HO.out.perm.it_ne hkz HP.out hm hjp)
                simp only [hDx, hnt] at hrow
                simp only [Bool.false_eq_true, if_false] at hrow
                rw [if_pos hjp] at hr
                have hrf : wr.frozen? ⟨w.heap.size, x, none⟩ = false := hfl.row.frozen x
                have hnw := hfl.new j (by rw [HL.out]; exact hjp)
                rw [if_neg (by omega), ← hr] at hnw
                have hne : r ≠ w.heap.size := by omega
                have hnw1 := hnw.far (p := ⟨w.heap.size, x, none⟩) hne (.pointer (some ⟨r, 0, none⟩))
                have c2 : (wr.setCell ⟨w.heap.size, x, none⟩ (.pointer (some ⟨r, 0, none⟩))).cell? ⟨r, 2, none⟩ = some .nilIface := hnw1.cell 2
                have f2 : (wr.setCell ⟨w.heap.size, x, none⟩ (.pointer (some ⟨r, 0, none⟩))).frozen? ⟨r, 2, none⟩ = false := hnw1.frozen 2
                have c0 := (hnw1.set_ 2 (.iface 2 (.int .i64 (x : Int)))).cell 0
                have hst := fill_step hfl HO.out hkz (by rw [HL.out]; exact hjp) hjx hDx hLo HAB.out
                rw [← hr] at hst
                have hcw : ((wr.setCell ⟨w.heap.size, x, none⟩ (.pointer (some ⟨r, 0, none⟩))).setCell ⟨r, 2, none⟩ (.iface 2 (.int .i64 (x : Int)))).cell? ⟨b, off + x, none⟩ = some (.int .i64 (nx zs x : Int)) := by
                  rw [hst.bel.cell (p := ⟨b, off + x, none⟩) hb, HCC.out x hx, HO.out.nx_eq hxz]
                have R : Hid (Inner w zs ad D k wo.heap.size (j + 1) (nx zs x) (wo.heap.size + sucN p j) _) := ⟨by rw [HL.out]; omega, by unfold orb at hjx ⊢; rw [RM.it_succ, hjx], by rw [HL.out]; rfl, hst⟩
                rw [HL.out] at c0
                generalize wo.heap.size + sucN p j = r2 at c0 R
                simp at c0
                clear hfl hjx hr hnw hnw1 hst hDx hnt hin hne
                go_wp2_with (go_at_call 29; refine (next_set _ r2 _ c0).mono ?_; rintro e w' ⟨rfl, rfl⟩)
                go_roundg (gk - 1)
                case measure => omega
                case rel => exact ⟨j + 1, nx zs x, r2, by omega, HNL.out x hx, rfl, rfl, R⟩
          · have hne : ((x : Int) != (k : Int)) = true := by
              have : x ≠ k := fun e => HP.out.first j hj0 (by omega) (hjx.out.trans e)
              simp; omega
            have hcxx := hcx.out x hx
            go_wp2
            go_round
            case rel =>
              refine ⟨j + 1, nx zs x, by omega, by omega, HNL.out x hx, ?_, by go_num, rfl⟩
              show orb zs k (j + 1) = nx zs x
              have := hjx.out
              unfold orb at this ⊢
              rw [RM.it_succ, this]
            case measure => simp [intOf]; omega
    · obtain rfl : k = n := by omega
      obtain ⟨ad, D, hbd, hdone⟩ := hout
      have R := hide (ring_of_bd hbd (by rw [HN.out]; exact hdone))
      have HB := hide hbd
      have HDN := hide hdone
      clear hbd hdone
      go_wp2
      go_ret
      refine ⟨rfl, ad, ?_, fun j hj => HB.out.gt j (by rw [HN.out]; exact hj) (HDN.out j hj), ?_, HB.out.bel⟩
      · have := R.out.1
        rw [HN.out] at this
        exact this
      · have := R.out.2
        rw [HN.out] at this
        exact this

end Go.Proofs.Ytpdimdpphbobiaa
