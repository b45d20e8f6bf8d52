/-
  The reference's functions that look at rings: Rings, Element, Steps, Cycle, Before, Moved.
-/
import Derived.Test.YtpdimdpphbobiaaFollow
namespace Go.Proofs.Ytpdimdpphbobiaa
open Go.RowKit

/-! ### What a list of numbers tells -/

/-- The element that follows i. -/
def nx (zs : List Int) (i : Nat) : Nat := (zs.getD i 0).toNat

/-- Element i has one that follows it, which follows none before. -/
def goodAt (zs : List Int) (i : Nat) : Bool := decide (0 ≤ zs.getD i 0) && (decide (zs.getD i 0 < zs.length) && !((zs.take i).contains (zs.getD i 0)))

/-- The list tells of rings. -/
def ringsB (zs : List Int) : Bool := (List.range zs.length).all (goodAt zs)

theorem ringsB_false {zs : List Int} {k : Nat} (hk : k < zs.length) (h : goodAt zs k = false) : ringsB zs = false := by
  unfold ringsB
  rw [List.all_eq_false]
  exact ⟨k, by simpa using hk, by simp [h]⟩
theorem ringsB_true {zs : List Int} (h : ∀ i, i < zs.length → goodAt zs i = true) : ringsB zs = true := by
  unfold ringsB
  rw [List.all_eq_true]
  intro i hi
  exact h i (by simpa using hi)

structure RingsOk (zs : List Int) : Prop where
  lo : ∀ i, i < zs.length → 0 ≤ zs.getD i 0
  hi : ∀ i, i < zs.length → zs.getD i 0 < zs.length
  inj : ∀ i j, i < zs.length → j < zs.length → zs.getD i 0 = zs.getD j 0 → i = j

theorem mem_take_of {zs : List Int} {i j : Nat} (hij : i < j) (hj : j < zs.length) : (zs.take j).contains (zs.getD i 0) = true := by
  rw [List.contains_iff_mem, List.mem_iff_getElem?]
  refine ⟨i, ?_⟩
  rw [List.getElem?_take, if_pos hij]
  simp [List.getD, List.getElem?_eq_getElem (show i < zs.length by omega)]

theorem ringsOk_of {zs : List Int} (h : ringsB zs = true) : RingsOk zs := by
  have g : ∀ i, i < zs.length → goodAt zs i = true := by
    unfold ringsB at h
    rw [List.all_eq_true] at h
    exact fun i hi => h i (by simpa using hi)
  have g1 : ∀ i, i < zs.length → 0 ≤ zs.getD i 0 ∧ zs.getD i 0 < zs.length ∧ (zs.take i).contains (zs.getD i 0) = false := fun i hi => by
    have := g i hi
    unfold goodAt at this
    simp only [Bool.and_eq_true, decide_eq_true_eq, Bool.not_eq_true'] at this
    exact this
  refine ⟨fun i hi => (g1 i hi).1, fun i hi => (g1 i hi).2.1, fun i j hi hj e => ?_⟩
  rcases Nat.lt_trichotomy i j with hl | hl | hl
  · have := mem_take_of hl hj
    rw [e, (g1 j hj).2.2] at this
    cases this
  · exact hl
  · have := mem_take_of hl hi
    rw [← e, (g1 i hi).2.2] at this
    cases this

theorem RingsOk.nx_lt {zs : List Int} (h : RingsOk zs) {i : Nat} (hi : i < zs.length) : nx zs i < zs.length := by
  have h1 := h.lo i hi
  have h2 := h.hi i hi
  unfold nx
  omega
theorem RingsOk.nx_eq {zs : List Int} (h : RingsOk zs) {i : Nat} (hi : i < zs.length) : zs.getD i 0 = (nx zs i : Int) := by
  have h1 := h.lo i hi
  unfold nx
  omega
theorem RingsOk.nx_inj {zs : List Int} (h : RingsOk zs) {i j : Nat} (hi : i < zs.length) (hj : j < zs.length) (e : nx zs i = nx zs j) : i = j :=
  h.inj i j hi hj (by rw [h.nx_eq hi, h.nx_eq hj, e])

/-- What element i follows. -/
def pv (zs : List Int) (i : Nat) : Nat := RM.inv (nx zs) zs.length i
theorem RingsOk.perm {zs : List Int} (h : RingsOk zs) : RM.Perm zs.length (nx zs) (pv zs) := RM.perm_of_inj (fun _ hi => h.nx_lt hi) (fun _ _ hi hj e => h.nx_inj hi hj e)
/-- The length of the ring of i. -/
def len (zs : List Int) (i : Nat) : Nat := RM.per (nx zs) zs.length i

theorem zs_nums {zs : List Int} (h : RingsOk zs) : nums (nx zs) zs.length = zs := by
  apply List.ext_getElem?
  intro i
  unfold nums
  rw [List.getElem?_map]
  rcases Nat.lt_or_ge i zs.length with hi | hi
  · have := h.nx_eq hi
    rw [List.getElem?_range hi, List.getElem?_eq_getElem hi]
    simp only [Option.map_some, Option.some.injEq]
    rw [← this]
    simp [List.getD, List.getElem?_eq_getElem hi]
  · rw [List.getElem?_eq_none (by simpa using hi), List.getElem?_eq_none hi]; rfl

/-! ### Rings -/

theorem info_bool : (Try.prog.info? 4).map (fun i => (i.zero, i.size, i.bytes)) = some (some (.bool false), 1, 1) := by kernel_rfl

/-- What has been seen when k elements have been looked at. -/
def seen (zs : List Int) (k j : Nat) : Value := .bool ((zs.take k).contains (j : Int))

theorem seen_step {w : World} {L : Nat} {zs : List Int} {k z : Nat} (h : w.rowIs L 4 zs.length (seen zs k)) (hk : k < zs.length) (hz : zs.getD k 0 = (z : Int)) :
    (w.setCell ⟨L, z, none⟩ (.bool true)).rowIs L 4 zs.length (seen zs (k + 1)) := by
  refine (h.set z (.bool true)).congr fun j _ => ?_
  have ht : zs.take (k + 1) = zs.take k ++ [zs.getD k 0] := by
    rw [List.take_succ_eq_append_getElem hk]
    simp [List.getD, List.getElem?_eq_getElem hk]
  unfold seen
  rw [ht, hz]
  by_cases e : j = z
  · subst e
    simp
  · rw [if_neg e]
    simp
    intro h
    omega

set_option maxHeartbeats 1000000 in
theorem rings_any (v : Value) (zs : List Int) (w : World) (hv : Ints w v zs) (hN : zs.length * 8 ≤ 140737488351232) :
    Calls Try.prog 12 #[v] w fun e w' => e = .returned (.bool (ringsB zs)) ∧ Below w.heap.size w w' := by
  obtain ⟨A, c, rfl⟩ := hv.form rfl
  obtain ⟨n, hn⟩ : ∃ n, zs.length = n := ⟨_, rfl⟩
  have HN := hide hn
  have hc := hide hv.open_.2.2.2
  rw [hn] at hc hN ⊢
  clear hv hn
  have hmk := run_make_row' (P := Try.prog) 52 4 (.bool false) 1 Try.underlying52 info_bool rfl .i64 .i64 n (by omega) (by omega)
  go_enter Try.func12, Try.ntmps12
  go_wp2
  go_loopw [4] (fun i wr => ∃ k : Nat, k ≤ n ∧ i = .int .i64 k ∧ Hid (∀ j, j < k → goodAt zs j = true) ∧ wr.rowIs w.heap.size 4 n (seen zs k) ∧ Below w.heap.size w wr) (fun i _ => n - (intOf i).toNat)
  case atStart =>
    refine ⟨0, Nat.zero_le _, rfl, fun j hj => absurd hj (by omega), (World.rowIs_made w (.bool false) n 4).congr (fun j _ => ?_), (Below.refl _ _).alloc (Nat.le_refl _) _⟩
    unfold seen; simp
  case round =>
    obtain ⟨k, hk, rfl, hgood, hrow, hbel⟩ := hrel
    have HG := hgood
    by_cases hlt : k < n
    · obtain ⟨b, off, rfl, hb, hcell⟩ := hc.out (by omega)
      have hck : wr.cell? ⟨b, off + k, none⟩ = some (.int .i64 (zs.getD k 0)) := (hbel.cell (p := ⟨b, off + k, none⟩) hb).trans (hcell k hlt)
      obtain ⟨x, hx⟩ : ∃ x, zs.getD k 0 = x := ⟨_, rfl⟩
      rw [hx] at hck
      have HX := hide hx
      have hkz : k < zs.length := by rw [HN.out]; exact hlt
      clear hcell hx hgood
      by_cases h0 : x < 0
      · have hbad : ringsB zs = false := ringsB_false hkz (by unfold goodAt; rw [HX.out, decide_eq_false (by omega)]; rfl)
        have HBD := hide hbad
        clear hbad hrow
        go_wp2
        go_ret
        exact ⟨ret_b HBD.out.symm, hbel⟩
      by_cases h1 : (n : Int) ≤ x
      · have hbad : ringsB zs = false := ringsB_false hkz (by unfold goodAt; rw [HX.out, HN.out, decide_eq_false (p := x < (n : Int)) (by omega)]; simp)
        have HBD := hide hbad
        clear hbad hrow
        go_wp2
        go_ret
        exact ⟨ret_b HBD.out.symm, hbel⟩
      obtain ⟨z, rfl⟩ : ∃ z : Nat, x = z := ⟨x.toNat, by omega⟩
      have hzn : z < n := by omega
      have hsc : wr.cell? ⟨w.heap.size, z, none⟩ = some (.bool ((zs.take k).contains (z : Int))) := hrow.cell hzn
      have hsf : wr.frozen? ⟨w.heap.size, z, none⟩ = false := hrow.frozen z
      cases hs : (zs.take k).contains (z : Int) with
      | true =>
        have hbad : ringsB zs = false := ringsB_false hkz (by unfold goodAt; rw [HX.out, hs]; simp)
        have HBD := hide hbad
        rw [hs] at hsc
        clear hbad hrow hs
        go_wp2
        go_ret
        exact ⟨ret_b HBD.out.symm, hbel⟩
      | false =>
        have hg : goodAt zs k = true := by unfold goodAt; rw [HX.out, hs, HN.out, decide_eq_true (by omega), decide_eq_true (by omega)]; rfl
        have G2 : Hid (∀ j, j < k + 1 → goodAt zs j = true) := fun j hj => by
          rcases Nat.lt_or_ge j k with h | h
          · exact HG.out j h
          · obtain rfl : j = k := by omega
            exact hg
        have R := hide (seen_step (by rw [HN.out]; exact hrow) hkz HX.out)
        have RB := hide (hbel.setCell (p := ⟨w.heap.size, z, none⟩) (Nat.le_refl _) (.bool true))
        rw [hs] at hsc
        rw [HN.out] at R
        clear hrow hg hbel hs HG
        go_wp2
        go_roundw
        case rel => exact ⟨k + 1, by omega, by go_num, G2, R.out, RB.out⟩
        case measure => simp [intOf]; omega
    · obtain rfl : k = n := by omega
      have hok : ringsB zs = true := ringsB_true (by rw [HN.out]; exact HG.out)
      have HOK := hide hok
      clear hok hrow
      go_wp2
      go_ret
      exact ⟨ret_b HOK.out.symm, hbel⟩

end Go.Proofs.Ytpdimdpphbobiaa
