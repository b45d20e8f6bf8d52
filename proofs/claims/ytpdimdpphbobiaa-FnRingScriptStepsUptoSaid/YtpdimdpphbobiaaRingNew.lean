/-
  RingNew.
-/
import Derived.Test.YtpdimdpphbobiaaNew
import Derived.Test.YtpdimdpphbobiaaFollow
namespace Go.Proofs.Ytpdimdpphbobiaa
open Go.RowKit

theorem RingV.grown {w w' : World} {N : Nat} {ad f g : Nat → Nat} {V : Nat → Value} {row : Option Nat} (h : RingV w N ad f g V) (hg : w.grownBy w' row) (hr : ∀ i, i < N → some (ad i) ≠ row) : RingV w' N ad f g V :=
  ⟨fun i hi => (h.blk i hi).grown hg (hr i hi), h.inj⟩

theorem RingV.alloc {w : World} {N : Nat} {ad f g : Nat → Nat} {V : Nat → Value} (h : RingV w N ad f g V) (o : Obj) : RingV (w.alloc o) N ad f g V :=
  ⟨fun i hi => (h.blk i hi).alloc o, h.inj⟩

/-- A value is set. -/
theorem RingV.setV {w : World} {N : Nat} {ad f g : Nat → Nat} {V V' : Nat → Value} (h : RingV w N ad f g V) {i : Nat} (hi : i < N) (x : Value) (hV : ∀ j, j < N → V' j = if j = i then x else V j) :
    RingV (w.setCell ⟨ad i, 2, none⟩ x) N ad f g V' := by
  refine ⟨fun j hj => ?_, h.inj⟩
  by_cases e : j = i
  · subst e
    have := (h.blk j hj).set_ 2 x
    rw [hV j hj, if_pos rfl]
    simpa using this
  · rw [hV j hj, if_neg e]
    exact (h.blk j hj).far (p := ⟨ad i, 2, none⟩) (fun he => e (h.inj _ _ hj hi he)) x

/-- The values while the elements are numbered: those below k bear their number. -/
def stage (k j : Nat) : Value := if j < k then numV j else .nilIface
def ptrs (ad : Nat → Nat) (k : Nat) : List Value := (List.range k).map fun i => .pointer (some ⟨ad i, 0, none⟩)
theorem ptrs_succ (ad : Nat → Nat) (k : Nat) : ptrs ad (k + 1) = ptrs ad k ++ [.pointer (some ⟨ad k, 0, none⟩)] := by
  unfold ptrs; rw [List.range_succ, List.map_append]; rfl
theorem ptrs_get (ad : Nat → Nat) (n i : Nat) (h : i < n) : (ptrs ad n)[i]? = some (.pointer (some ⟨ad i, 0, none⟩)) := by unfold ptrs; simp [h]

/-- What holds while the elements of a new ring are numbered. -/
structure Num (w wr : World) (n k : Nat) (B1 : Nat) (u : Value) : Prop where
  ring : RingV wr n (fun j => w.heap.size + j) (sucN n) (preN n) (stage k)
  own : wr.ownsRow B1 43 1 u k (ptrs (fun j => w.heap.size + j) k)
  bel : Below w.heap.size w wr
  top : B1 = w.heap.size + n
  size : B1 ≤ wr.heap.size

theorem num_step {w wr w1 : World} {n k B1 : Nat} {u u' : Value} {o : Obj} (h : Num w wr n k B1 u) (hk : k < n)
    (hown' : w1.ownsRow B1 43 1 u' (k + 1) (ptrs (fun j => w.heap.size + j) k ++ [.pointer (some ⟨w.heap.size + k, 0, none⟩)]))
    (hg : ((wr.setCell ⟨w.heap.size + k, 2, none⟩ (.iface 2 (.int .i64 (k : Int)))).alloc o).grownBy w1 u.ownBlock) : Num w w1 n (k + 1) B1 u' := by
  have hs := h.size
  have ht := h.top
  have hne : ∀ j, u.ownBlock = some j → B1 ≤ j := fun j hj => (h.own.lt j hj).1
  have hr : RingV (wr.setCell ⟨w.heap.size + k, 2, none⟩ (.iface 2 (.int .i64 (k : Int)))) n (fun j => w.heap.size + j) (sucN n) (preN n) (stage (k + 1)) :=
    h.ring.setV hk _ (fun j hj => by
      unfold stage
      by_cases e : j = k
      · subst e; rw [if_pos (by omega), if_pos rfl]; rfl
      · rw [if_neg e]
        by_cases e2 : j < k
        · rw [if_pos e2, if_pos (by omega)]
        · rw [if_neg e2, if_neg (by omega)])
  refine ⟨(hr.alloc o).grown hg (fun i hi e => ?_), by rw [ptrs_succ]; exact hown', ?_, ht, ?_⟩
  · have := hne _ e.symm
    have : B1 ≤ w.heap.size + i := this
    omega
  · exact ((h.bel.setCell (p := ⟨w.heap.size + k, 2, none⟩) (by show w.heap.size ≤ w.heap.size + k; omega) _).alloc (by simp [World.setCell]; omega) o).grown hg (by simp [World.setCell]; omega) (fun j hj => by have := hne j hj; omega)
  · have := hg.size
    simp [World.setCell] at this
    omega

theorem cells_empty (w : World) (b n : Nat) (F : Nat → Value) (h : n = 0) : Cells w (.slice (some ⟨b, 0, none⟩) 0 0) n F := by
  subst h
  exact ⟨_, 0, rfl, Nat.le_refl _, Nat.zero_le _, fun h => absurd h (by omega)⟩

set_option maxHeartbeats 400000 in
theorem ringNew_none (n : Int) (w : World) (hn : n ≤ 0) :
    Calls Try.prog 14 #[.int .i64 n] w fun e w' => ∃ v', e = .returned v' ∧ Fresh w.heap.size w' v' [] ∧ Below w.heap.size w w' := by
  go_enter Try.func14, Try.ntmps14
  go_wp2_with (go_at_call 39; refine (new_none _ _ hn).mono ?_; rintro e w' ⟨rfl, rfl⟩)
  refine wp_loop_rounds 1 ?_
  rw [rounds_succ]
  go_wp2_with (go_at_call 37; refine (follow_any _ 0 (fun i => i) (fun i => i) (fun i => i) _ ⟨fun i hi => absurd hi (by omega), fun i j hi _ _ => absurd hi (by omega)⟩ ⟨fun i hi => hi, fun i hi => hi, fun _ _ => rfl, fun _ _ => rfl⟩ (cells_empty _ _ _ _ rfl) (by omega)).mono ?_; rintro e w' ⟨v', rfl, hown, hbel⟩)
  go_ret
  exact ⟨v', rfl, hown.mono (by simp), ((Below.refl w.heap.size w).alloc (Nat.le_refl _) _).trans (hbel.mono (by simp))⟩

set_option maxHeartbeats 1000000 in
theorem ringNew_any (n : Nat) (w : World) (hn : 0 < n) (hm : n ≤ 100000) :
    Calls Try.prog 14 #[.int .i64 n] w fun e w' => ∃ v', e = .returned v' ∧ Fresh w.heap.size w' v' (nums (sucN n) n) ∧ Below w.heap.size w w' := by
  obtain ⟨i0, hi, hz0, hz1, hz2⟩ := info_parts info_ptr
  have hs := neq_same
  go_enter Try.func14, Try.ntmps14
  go_wp2_with (go_at_call 39; refine (new_any _ _ hn (by omega)).mono ?_; rintro e w1 ⟨rfl, hr1, hsz1, hb1⟩)
  have hst : Num w (w1.alloc (.cells #[] 43)) n 0 (w.heap.size + n) (.slice (some ⟨w.heap.size + n, 0, none⟩) 0 0) := by
    refine ⟨?_, ?_, ?_, rfl, by simp [hsz1]⟩
    · have := hr1.alloc (.cells #[] 43)
      exact ⟨this.blk, this.inj⟩
    · have := World.ownsRow_made (base := w.heap.size + n) (e := 43) (size := 1) w1 #[] 0 (by omega) (Nat.zero_le _) rfl
      rw [hsz1] at this
      exact this
    · exact hb1.alloc (by omega) _
  have HS := hide hsz1
  clear hr1 hsz1 hb1
  generalize w1.alloc (.cells #[] 43) = w2 at *
  go_loopw [4, 5, 6] (fun kk u x wr => ∃ k q : Nat, k ≤ n ∧ kk = .int .i64 k ∧ x = .pointer (some ⟨q, 0, none⟩) ∧ Hid ((k < n → q = w.heap.size + k) ∧ (k = n → q = w.heap.size)) ∧ Num w wr n k (w.heap.size + n) u) (fun kk _ _ _ => n - (intOf kk).toNat)
  case atStart => exact ⟨0, w.heap.size, by omega, rfl, rfl, ⟨fun _ => rfl, fun _ => rfl⟩, hst⟩
  case round =>
    obtain ⟨k, q, hk, rfl, rfl, hq, hnum⟩ := hrel
    clear hst
    have NN := hide hnum
    by_cases hlt : k < n
    · obtain rfl := hq.out.1 hlt
      have c2 : wr.cell? ⟨w.heap.size + k, 2, none⟩ = some .nilIface := by
        have := hnum.ring.c2 hlt
        unfold stage at this
        rw [if_neg (by omega)] at this
        exact this
      have f2 : wr.frozen? ⟨w.heap.size + k, 2, none⟩ = false := (hnum.ring.blk k hlt).frozen 2
      have hown : (wr.setCell ⟨w.heap.size + k, 2, none⟩ (.iface 2 (.int .i64 (k : Int)))).ownsRow (w.heap.size + n) 43 1 _ _ _ := ownsRow_setCell_below hnum.own (by show w.heap.size + k < w.heap.size + n; omega) _
      have hsz := hnum.size
      have hkk : ((k : Int) == 0) = true ∨ ((k : Int) == 0) = false ∧ (binOp .neq 43 (.pointer (some ⟨w.heap.size + k, 0, none⟩)) (.pointer (some ⟨w.heap.size, 0, none⟩))).run Try.prog wr = .ok (.bool true) wr := by
        rcases Nat.eq_zero_or_pos k with h0 | h0
        · exact .inl (by simp; omega)
        · have b0 := hnum.ring.blk 0 hn
          have bk := hnum.ring.blk k hlt
          exact .inr ⟨by simp; omega, neq_other bk b0 (by show w.heap.size + k ≠ w.heap.size + 0; omega)⟩
      clear hnum hq
      have hc1 := one_new (wr.setCell ⟨w.heap.size + k, 2, none⟩ (.iface 2 (.int .i64 (k : Int)))) (.pointer (some ⟨w.heap.size + k, 0, none⟩)) 43
      have hc5 : w.heap.size + n ≤ ((wr.setCell ⟨w.heap.size + k, 2, none⟩ (.iface 2 (.int .i64 (k : Int)))).alloc (.cells #[.pointer (some ⟨w.heap.size + k, 0, none⟩)] 43)).heap.size := by simp; omega
      rw [World.size_setCell] at hc1
      have H1 := hide hc1
      have H5 := hide hc5
      clear hc1 hc5
      rcases hkk with hk0 | ⟨hk0, hne⟩
      all_goals
        go_wp2_with (at_builtin; refine wpList_append_own _ rfl _ _ 41 rfl (w.heap.size + n) 43 i0 (.pointer none) 1 8 Try.underlying41 hi hz0 hz1 hz2 rfl (by decide) _ _ _ rfl (hown.alloc _) ⟨wr.heap.size, 0, none⟩ 1 1 [.pointer (some ⟨w.heap.size + k, 0, none⟩)] rfl rfl H1.out (one_ptr _) (by unfold maxLen; omega) (by omega) H5.out ?_)
        intro v' w3 hown' hgrow _
        have hN := num_step NN.out hlt hown' hgrow
        have c0 := hN.ring.c0 hlt
        have NN' := hide hN
        clear hown' hgrow hown c2 f2 NN hN
        go_wp2_with (go_at_call 29; refine (next_set _ _ _ c0).mono ?_; rintro e w4 ⟨rfl, rfl⟩)
        go_roundw
        case rel => exact ⟨k + 1, _, by omega, by go_num, rfl, ⟨fun h => by simp only [sucN, if_pos h], fun h => by simp only [sucN]; rw [if_neg (by omega)]; rfl⟩, NN'.out⟩
        case measure => simp [intOf]; omega
    · obtain rfl : k = n := by omega
      obtain rfl := hq.out.2 rfl
      have hne0 : ((k : Int) == 0) = false := by simp; omega
      have hr : RingV wr k (fun j => w.heap.size + j) (sucN k) (preN k) numV := by
        have := hnum.ring
        exact ⟨fun i hi => by have h := this.blk i hi; unfold stage at h; rw [if_pos hi] at h; exact h, this.inj⟩
      have hcl : Cells wr u5 k (fun i => .pointer (some ⟨w.heap.size + i, 0, none⟩)) := cells_of_own hnum.own (fun i hi => ptrs_get _ _ _ hi)
      have H1 := hide hr
      have H2 := hide hcl
      have HB := hide hnum.bel
      clear hr hcl hnum hq
      go_wp2_with (go_at_call 37; refine (follow_any _ k (fun j => w.heap.size + j) (sucN k) (preN k) _ H1.out (perm_new k hn) H2.out (by omega)).mono ?_; rintro e w' ⟨v', rfl, hown, hbel⟩)
      go_ret
      have := HB.out.size
      exact ⟨v', rfl, hown.mono this, HB.out.trans (hbel.mono this)⟩

/-- The same at a number that is an integer. -/
theorem ringNew_int (z : Int) (n : Nat) (w : World) (hz : z = n) (hn : 0 < n) (hm : n ≤ 100000) :
    Calls Try.prog 14 #[.int .i64 z] w fun e w' => ∃ v', e = .returned v' ∧ Fresh w.heap.size w' v' (nums (sucN n) n) ∧ Below w.heap.size w w' := by
  subst hz
  exact ringNew_any n w hn hm

end Go.Proofs.Ytpdimdpphbobiaa
