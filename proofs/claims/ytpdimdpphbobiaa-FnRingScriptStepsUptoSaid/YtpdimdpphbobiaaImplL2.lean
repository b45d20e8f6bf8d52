/-
  RingLink with an empty ring, RingUnlink.
-/
import Derived.Test.YtpdimdpphbobiaaImplL
namespace Go.Proofs.Ytpdimdpphbobiaa
open Go.RowKit

/-- follow of rings that stand. -/
theorem follow_stand {w0 : World} {L : Nat} {ad : Nat → Nat} {zs : List Int} {w : World} (h : Stand w0 L ad zs w) (hok : RingsOk zs) (hN : zs.length * 8 ≤ 140737488351232) :
    Calls Try.prog 37 #[.slice (some ⟨L, 0, none⟩) zs.length zs.length] w fun e w' => ∃ v', e = .returned v' ∧ Fresh w.heap.size w' v' zs ∧ Below w.heap.size w w' := by
  have := follow_any w zs.length ad (nx zs) (pv zs) _ h.ring hok.perm (h.list (by unfold maxLen; omega)) hN
  rwa [zs_nums hok] at this

/-- .. and the number of an element behind it. -/
theorem Stand.num {w0 : World} {L : Nat} {ad : Nat → Nat} {zs : List Int} {w : World} (h : Stand w0 L ad zs w) {k : Nat} (hk : k < zs.length) : w.cell? ⟨ad k, 2, none⟩ = some (.iface 2 (.int .i64 (k : Int))) := h.ring.c2 hk

theorem stand_build {w w1 : World} {zs : List Int} {ad : Nat → Nat} (hr : RingV w1 zs.length ad (nx zs) (pv zs) numV) (hgt : ∀ k, k < zs.length → w.heap.size < ad k) (hrow : w1.rowIs w.heap.size 43 zs.length (fun k => .pointer (some ⟨ad k, 0, none⟩))) (hbel : Below w.heap.size w w1) :
    Stand w w.heap.size ad zs w1 := ⟨hr, hgt, hrow, hbel, hrow.lt⟩


end Go.Proofs.Ytpdimdpphbobiaa
