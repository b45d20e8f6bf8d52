/-
  build: what holds while the rings are made, ring by ring, element by element. No walk here.
-/
import Derived.Test.YtpdimdpphbobiaaSpec3
import Derived.Test.YtpdimdpphbobiaaRingNew
namespace Go.Proofs.Ytpdimdpphbobiaa
open Go.RowKit

/-- The place of k behind i among p elements. -/
def idx (zs : List Int) (i p k : Nat) : Nat := ((List.range p).find? fun j => orb zs i j == k).getD 0
/-- k is among the first j elements from i on. -/
def inTo (zs : List Int) (i j k : Nat) : Bool := (List.range j).any fun m => orb zs i m == k

theorem inTo_iff (zs : List Int) (i j k : Nat) : inTo zs i j k = true ↔ ∃ m, m < j ∧ orb zs i m = k := by
  unfold inTo
  rw [List.any_eq_true]
  constructor
  · rintro ⟨m, hm, h⟩
    exact ⟨m, by simpa using hm, by simpa using h⟩
  · rintro ⟨m, hm, h⟩
    exact ⟨m, by simpa using hm, by simpa using h⟩
theorem inTo_succ (zs : List Int) (i j k : Nat) : inTo zs i (j + 1) k = (inTo zs i j k || orb zs i j == k) := by
  unfold inTo
  rw [List.range_succ, List.any_append]
  simp

/-- What holds when the elements of D have been made. -/
structure Bd (w wr : World) (zs : List Int) (L : Nat) (ad : Nat → Nat) (D : Nat → Bool) : Prop where
  row : wr.rowIs L 43 zs.length (fun k => if D k then .pointer (some ⟨ad k, 0, none⟩) else .pointer none)
  blk : ∀ k, k < zs.length → D k = true → Blk wr (ad k) 54 #[.pointer (some ⟨ad (nx zs k), 0, none⟩), .pointer (some ⟨ad (pv zs k), 0, none⟩), numV k]
  closed : ∀ k, k < zs.length → D k = true → D (nx zs k) = true
  inj : ∀ i j, i < zs.length → j < zs.length → D i = true → D j = true → ad i = ad j → i = j
  gt : ∀ k, k < zs.length → D k = true → L < ad k
  bel : Below L w wr

/-- What holds while the ring of i is filled: its elements lie from B1 on, j of them are numbered. -/
structure Fl (w wr : World) (zs : List Int) (L : Nat) (ad : Nat → Nat) (D : Nat → Bool) (i p B1 j : Nat) : Prop where
  row : wr.rowIs L 43 zs.length (fun k => if D k then .pointer (some ⟨ad k, 0, none⟩) else if inTo zs i j k then .pointer (some ⟨B1 + idx zs i p k, 0, none⟩) else .pointer none)
  old : ∀ k, k < zs.length → D k = true → Blk wr (ad k) 54 #[.pointer (some ⟨ad (nx zs k), 0, none⟩), .pointer (some ⟨ad (pv zs k), 0, none⟩), numV k]
  new : ∀ m, m < p → Blk wr (B1 + m) 54 #[.pointer (some ⟨B1 + sucN p m, 0, none⟩), .pointer (some ⟨B1 + preN p m, 0, none⟩), if m < j then numV (orb zs i m) else .nilIface]
  bel : Below L w wr

section
variable {w wr : World} {zs : List Int} {L : Nat} {ad : Nat → Nat} {D : Nat → Bool} {i B1 : Nat}

theorem orb_lt (hok : RingsOk zs) (hi : i < zs.length) (m : Nat) : orb zs i m < zs.length := hok.perm.it_lt m hi
theorem idx_orb (hok : RingsOk zs) (hi : i < zs.length) {m : Nat} (hm : m < len zs i) : idx zs i (len zs i) (orb zs i m) = m := by
  unfold idx
  have hs : ((List.range (len zs i)).find? fun j => orb zs i j == orb zs i m) = some m := by
    rw [List.find?_range_eq_some]
    refine ⟨by simp, by simpa using hm, fun j hj => ?_⟩
    have : orb zs i j ≠ orb zs i m := hok.perm.it_ne hi (hok.perm.per hi) hj hm
    simpa using this
  rw [hs]; rfl

/-- What has been made before is no part of the ring of i. -/
theorem not_done (h : Bd w wr zs L ad D) (hok : RingsOk zs) (hi : i < zs.length) (hD : D i = false) (m : Nat) (hm : m < len zs i) : D (orb zs i m) = false := by
  cases hx : D (orb zs i m) with
  | false => rfl
  | true =>
    have up : ∀ q, D (orb zs i (m + q)) = true := by
      intro q
      induction q with
      | zero => exact hx
      | succ q ih => exact h.closed _ (orb_lt hok hi _) ih
    have := up (len zs i - m)
    rw [show m + (len zs i - m) = len zs i by omega] at this
    have e : orb zs i (len zs i) = i := (hok.perm.per hi).back
    rw [e, hD] at this
    cases this

theorem fill_start {w1 : World} (h : Bd w wr zs L ad D) (hnew : RingV w1 (len zs i) (fun j => wr.heap.size + j) (sucN (len zs i)) (preN (len zs i)) (fun _ => .nilIface)) (hb : Below wr.heap.size wr w1) :
    Fl w w1 zs L ad D i (len zs i) wr.heap.size 0 := by
  refine ⟨?_, fun k hk hd => (h.blk k hk hd).below hb (h.blk k hk hd).lt, fun m hm => ?_, h.bel.trans (hb.mono (Nat.le_of_lt h.row.lt))⟩
  · refine (h.row.of_block (hb.block L h.row.lt)).congr fun k _ => ?_
    unfold inTo
    simp
  · have := hnew.blk m hm
    rw [if_neg (by omega)]
    exact this

theorem fill_step {j x : Nat} (h : Fl w wr zs L ad D i (len zs i) B1 j) (hok : RingsOk zs) (hi : i < zs.length) (hj : j < len zs i) (hx : orb zs i j = x) (hD : D x = false) (hLB : L < B1) (hadB : ∀ k, k < zs.length → D k = true → L < ad k ∧ ad k < B1) :
    Fl w ((wr.setCell ⟨L, x, none⟩ (.pointer (some ⟨B1 + j, 0, none⟩))).setCell ⟨B1 + j, 2, none⟩ (.iface 2 (.int .i64 (x : Int)))) zs L ad D i (len zs i) B1 (j + 1) := by
  refine ⟨?_, fun k hk hd => ?_, fun m hm => ?_, ?_⟩
  · refine ((h.row.set x _).setOther (a := ⟨B1 + j, 2, none⟩) (by show L ≠ B1 + j; omega) _).congr fun k _ => ?_
    rw [inTo_succ, hx]
    by_cases e : k = x
    · subst e
      have e1 : idx zs i (len zs i) k = j := by rw [← hx]; exact idx_orb hok hi hj
      rw [if_pos rfl, hD, e1]
      simp
    · rw [if_neg e]
      have : (x == k) = false := by simp; exact fun h => e h.symm
      rw [this, Bool.or_false]
  · have hb := h.old k hk hd
    have := hadB k hk hd
    exact (hb.far (p := ⟨L, x, none⟩) (by show ad k ≠ L; omega) _).far (p := ⟨B1 + j, 2, none⟩) (by show ad k ≠ B1 + j; omega) _
  · have hb := (h.new m hm).far (p := ⟨L, x, none⟩) (by show B1 + m ≠ L; omega) (.pointer (some ⟨B1 + j, 0, none⟩))
    by_cases e : m = j
    · subst e
      have := hb.set_ 2 (.iface 2 (.int .i64 (x : Int)))
      rw [if_pos (by omega), hx]
      simpa [numV] using this
    · have := hb.far (p := ⟨B1 + j, 2, none⟩) (by show B1 + m ≠ B1 + j; omega) (.iface 2 (.int .i64 (x : Int)))
      by_cases e2 : m < j
      · rw [if_pos e2] at this
        rw [if_pos (by omega)]
        exact this
      · rw [if_neg e2] at this
        rw [if_neg (by omega)]
        exact this
  · exact (h.bel.setCell (p := ⟨L, x, none⟩) (Nat.le_refl _) _).setCell (p := ⟨B1 + j, 2, none⟩) (by show L ≤ B1 + j; omega) _

theorem fill_done {wf : World} (h : Fl w wf zs L ad D i (len zs i) B1 (len zs i)) (hbd : Bd w wr zs L ad D) (hok : RingsOk zs) (hi : i < zs.length) (hDi : D i = false) (hLB : L < B1) (hadB : ∀ k, k < zs.length → D k = true → ad k < B1) :
    Bd w wf zs L (fun k => if D k then ad k else B1 + idx zs i (len zs i) k) (fun k => D k || inTo zs i (len zs i) k) := by
  have hper := hok.perm.per hi
  have hback : orb zs i (len zs i) = i := hper.back
  have p0 : 0 < len zs i := hper.pos
  have hnd := fun m hm => not_done hbd hok hi hDi m hm
  have hP := hok.perm
  -- the places of what follows and of what is followed
  have hsuc : ∀ m, m < len zs i → nx zs (orb zs i m) = orb zs i (sucN (len zs i) m) := by
    intro m hm
    unfold sucN
    split
    · rfl
    · have e : m + 1 = len zs i := by omega
      show orb zs i (m + 1) = orb zs i 0
      rw [e, hback]; rfl
  have hpre : ∀ m, m < len zs i → pv zs (orb zs i m) = orb zs i (preN (len zs i) m) := by
    intro m hm
    have hl : preN (len zs i) m < len zs i := by unfold preN; split <;> omega
    have e := hsuc _ hl
    have e2 : sucN (len zs i) (preN (len zs i) m) = m := (perm_new _ p0).fg m hm
    rw [e2] at e
    rw [← e]
    exact hP.gf _ (orb_lt hok hi _)
  have hold : ∀ k, k < zs.length → D k = true → D (pv zs k) = true := by
    intro k hk hd
    -- going on along the ring of k leads to what k follows
    have up : ∀ q, D (RM.it (nx zs) q k) = true := by
      intro q
      induction q with
      | zero => exact hd
      | succ q ih => exact hbd.closed _ (hP.it_lt q hk) ih
    exact up _
  have hsl : ∀ m, m < len zs i → sucN (len zs i) m < len zs i := fun m hm => (perm_new _ p0).f_lt m hm
  have hpl : ∀ m, m < len zs i → preN (len zs i) m < len zs i := fun m hm => (perm_new _ p0).g_lt m hm
  refine ⟨?_, fun k hk hd => ?_, fun k hk hd => ?_, fun a b ha hb hda hdb e => ?_, fun k hk hd => ?_, h.bel⟩
  · refine h.row.congr fun k _ => ?_
    cases D k <;> simp
  · cases hx : D k with
    | true =>
      have h1 := h.old k hk hx
      simp only [hbd.closed k hk hx, hold k hk hx, if_true]
      exact h1
    | false =>
      simp only [hx, Bool.false_or] at hd
      obtain ⟨m, hm, rfl⟩ := (inTo_iff _ _ _ _).1 hd
      have h1 := h.new m hm
      rw [if_pos hm] at h1
      rw [hsuc m hm, hpre m hm]
      simp only [hnd _ (hsl m hm), hnd _ (hpl m hm), idx_orb hok hi hm, idx_orb hok hi (hsl m hm), idx_orb hok hi (hpl m hm)]
      exact h1
  · cases hx : D k with
    | true => simp only [hbd.closed k hk hx, Bool.true_or]
    | false =>
      simp only [hx, Bool.false_or] at hd
      obtain ⟨m, hm, rfl⟩ := (inTo_iff _ _ _ _).1 hd
      rw [hsuc m hm, (inTo_iff _ _ _ _).2 ⟨_, hsl m hm, rfl⟩, Bool.or_true]
  · cases hxa : D a with
    | true =>
      have la := hadB a ha hxa
      cases hxb : D b with
      | true =>
        simp only [hxa, hxb, if_true] at e
        exact hbd.inj a b ha hb hxa hxb e
      | false =>
        simp only [hxa, hxb, if_true] at e
        simp at e
        omega
    | false =>
      simp only [hxa, Bool.false_or] at hda
      obtain ⟨m, hm, rfl⟩ := (inTo_iff _ _ _ _).1 hda
      cases hxb : D b with
      | true =>
        have lb := hadB b hb hxb
        simp only [hxa, hxb, if_true] at e
        simp at e
        omega
      | false =>
        simp only [hxb, Bool.false_or] at hdb
        obtain ⟨m', hm', rfl⟩ := (inTo_iff _ _ _ _).1 hdb
        simp only [hxa, hxb, idx_orb hok hi hm, idx_orb hok hi hm'] at e
        simp at e
        rw [e]
  · cases hx : D k with
    | true =>
      have := hbd.gt k hk hx
      simpa [hx] using this
    | false =>
      simp
      omega

end

/-- All is made: rings in memory. -/
theorem ring_of_bd {w wr : World} {zs : List Int} {L : Nat} {ad : Nat → Nat} {D : Nat → Bool} (h : Bd w wr zs L ad D) (hD : ∀ k, k < zs.length → D k = true) :
    RingV wr zs.length ad (nx zs) (pv zs) numV ∧ wr.rowIs L 43 zs.length (fun k => .pointer (some ⟨ad k, 0, none⟩)) :=
  ⟨⟨fun i hi => h.blk i hi (hD i hi), fun i j hi hj e => h.inj i j hi hj (hD i hi) (hD j hj) e⟩, h.row.congr fun k hk => by rw [hD k hk]; rfl⟩

theorem bd_start (w : World) (zs : List Int) :
    Bd w (w.alloc (.cells (madeCells #[.pointer none] zs.length) 43)) zs w.heap.size (fun k => k) (fun _ => false) :=
  ⟨(World.rowIs_made w (.pointer none) zs.length 43).congr (fun _ _ => rfl), (fun _ _ h => by cases h), (fun _ _ h => by cases h), (fun _ _ _ _ h => by cases h), (fun _ _ h => by cases h), (Below.refl _ _).alloc (Nat.le_refl _) _⟩

end Go.Proofs.Ytpdimdpphbobiaa
