/-
  RingNew.
-/
import Derived.Test.YtclgdlpnjdogbaaNew
import Derived.Test.YtclgdlpnjdogbaaFollow
namespace Go.Proofs.Ytclgdlpnjdogbaa
open Go.RowKit

theorem RingV.grown {w w' : World} {N : Nat} {ad f g : Nat → Nat} {V : Nat → Value} {row : Option Nat} (h : RingV w N ad f g V) (hg : w.grownBy w' row) (hr : ∀ i, i < N → some (ad i) ≠ row) : RingV w' N ad f g V :=
  ⟨fun i hi => (h.blk i hi).grown hg (hr i hi), h.inj⟩

theorem RingV.alloc {w : World} {N : Nat} {ad f g : Nat → Nat} {V : Nat → Value} (h : RingV w N ad f g V) (o : Obj) : RingV (w.alloc o) N ad f g V :=
  ⟨fun i hi => (h.blk i hi).alloc o, h.inj⟩

/-- A value is set. -/
theorem RingV.setV {w : World} {N : Nat} {ad f g : Nat → Nat} {V V' : Nat → Value} (h : RingV w N ad f g V) {i : Nat} (hi : i < N) (x : Value) (hV : ∀ j, j < N → V' j = if j = i then x else V j) :
    RingV (w.setCell ⟨ad i, 2, none⟩ x) N ad f g V' := by
  refine ⟨fun j hj => ?_, h.inj⟩
  by_cases e : j = i
  · subst e
    have := (h.blk j hj).set_ 2 x
    rw [hV j hj, if_pos rfl]
    simpa using this
  · rw [hV j hj, if_neg e]
    exact (h.blk j hj).far (p := ⟨ad i, 2, none⟩) (fun he => e (h.inj _ _ hj hi he)) x

/-- The values while the elements are numbered: those below k bear their number. -/
def stage (k j : Nat) : Value := if j < k then numV j else .nilIface
def ptrs (ad : Nat → Nat) (k : Nat) : List Value := (List.range k).map fun i => .pointer (some ⟨ad i, 0, none⟩)
theorem ptrs_succ (ad : Nat → Nat) (k : Nat) : ptrs ad (k + 1) = ptrs ad k ++ [.pointer (some ⟨ad k, 0, none⟩)] := by
  unfold ptrs; rw [List.range_succ, List.map_append]; rfl
theorem ptrs_get (ad : Nat → Nat) (n i : Nat) (h : i < n) : (ptrs ad n)[i]? = some (.pointer (some ⟨ad i, 0, none⟩)) := by unfold ptrs; simp [h]

/-- What holds while the elements of a new ring are numbered. -/
structure Num (w wr : World) (n k : Nat) (B1 : Nat) (u : Value) : Prop where
  ring : RingV wr n (fun j => w.heap.size + j) (sucN n) (preN n) (stage k)
  own : wr.ownsRow B1 35 1 u k (ptrs (fun j => w.heap.size + j) k)
  bel : Below w.heap.size w wr
  top : B1 = w.heap.size + n
  size : B1 ≤ wr.heap.size

theorem num_step {w wr w1 : World} {n k B1 : Nat} {u u' : Value} {o : Obj} (h : Num w wr n k B1 u) (hk : k < n)
    (hown' : w1.ownsRow B1 35 1 u' (k + 1) (ptrs (fun j => w.heap.size + j) k ++ [.pointer (some ⟨w.heap.size + k, 0, none⟩)]))
    (hg : ((wr.setCell ⟨w.heap.size + k, 2, none⟩ (.iface 2 (.int .i64 (k : Int)))).alloc o).grownBy w1 u.ownBlock) : Num w w1 n (k + 1) B1 u' := by
  have hs := h.size
  have ht := h.top
  have hne : ∀ j, u.ownBlock = some j → B1 ≤ j := fun j hj => (h.own.lt j hj).1
  have hr : RingV (wr.setCell ⟨w.heap.size + k, 2, none⟩ (.iface 2 (.int .i64 (k : Int)))) n (fun j => w.heap.size + j) (sucN n) (preN n) (stage (k + 1)) :=
    h.ring.setV hk _ (fun j hj => by
      unfold stage
      by_cases e : j = k
      · subst e; rw [if_pos (by omega), if_pos rfl]; rfl
      · rw [if_neg e]
        by_cases e2 : j < k
        · rw [if_pos e2, if_pos (by omega)]
        · rw [if_neg e2, if_neg (by omega)])
  refine ⟨(hr.alloc o).grown hg (fun i hi e => ?_), by rw [ptrs_succ]; exact hown', ?_, ht, ?_⟩
  · have := hne _ e.symm
    have : B1 ≤ w.heap.size + i := this
    omega
  · exact ((h.bel.setCell (p := ⟨w.heap.size + k, 2, none⟩) (by show w.heap.size ≤ w.heap.size + k; omega) _).alloc (by simp [World.setCell]; omega) o).grown hg (by simp [World.setCell]; omega) (fun j hj => by have := hne j hj; omega)
  · have := hg.size
    simp [World.setCell] at this
    omega

theorem cells_empty (w : World) (b n : Nat) (F : Nat → Value) (h : n = 0) : Cells w (.slice (some ⟨b, 0, none⟩) 0 0) n F := by
  subst h
  exact ⟨_, 0, rfl, Nat.le_refl _, Nat.zero_le _, fun h => absurd h (by omega)⟩


end Go.Proofs.Ytclgdlpnjdogbaa
