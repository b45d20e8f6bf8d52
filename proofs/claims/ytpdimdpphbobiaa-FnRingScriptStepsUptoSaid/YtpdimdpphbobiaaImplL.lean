/-
  The thin package's element, RingLink, RingUnlink.
-/
import Derived.Test.YtpdimdpphbobiaaLink
import Derived.Test.YtpdimdpphbobiaaBuild
import Derived.Test.YtpdimdpphbobiaaFollow
import Derived.Deep.RegionWith
namespace Go.Proofs.Ytpdimdpphbobiaa
open Go.RowKit

theorem element_none (v : Value) (k : Int) (w : World) (hk : k < 0) :
    Calls Try.prog 35 #[v, .int .i64 k] w fun e w' => e = .returned (.pointer none) ∧ w = w' := by
  go_enter Try.func35, Try.ntmps35
  go_wp2
  go_ret
  exact ⟨rfl, rfl⟩

theorem element_some (L n k g : Nat) (w : World) (hk : k < n) (hc : w.cell? ⟨L, k, none⟩ = some (.pointer (some ⟨g, 0, none⟩))) :
    Calls Try.prog 35 #[.slice (some ⟨L, 0, none⟩) n n, .int .i64 k] w fun e w' => e = .returned (.pointer (some ⟨g, 0, none⟩)) ∧ w = w' := by
  go_enter Try.func35, Try.ntmps35
  go_wp2
  go_ret
  exact ⟨rfl, rfl⟩

/-- The rings stand in memory, behind a list of pointers at block L; nothing below L has turned since w0. -/
structure Stand (w0 : World) (L : Nat) (ad : Nat → Nat) (zs : List Int) (w : World) : Prop where
  ring : RingV w zs.length ad (nx zs) (pv zs) numV
  gt : ∀ k, k < zs.length → L + 1 ≤ ad k
  row : w.rowIs L 43 zs.length (fun k => .pointer (some ⟨ad k, 0, none⟩))
  bel : Below L w0 w
  size : L + 1 ≤ w.heap.size

section
variable {w0 w w' : World} {L : Nat} {ad : Nat → Nat} {zs : List Int}
theorem Stand.drew (h : Stand w0 L ad zs w) : Stand w0 L ad zs w.drew := ⟨⟨h.ring.blk, h.ring.inj⟩, h.gt, h.row, h.bel.drew, h.size⟩
theorem Stand.list (h : Stand w0 L ad zs w) (hn : zs.length ≤ maxLen) : Cells w (.slice (some ⟨L, 0, none⟩) zs.length zs.length) zs.length (fun k => .pointer (some ⟨ad k, 0, none⟩)) := cells_of_row h.row hn
/-- Behind a call that only makes memory. -/
theorem Stand.below (h : Stand w0 L ad zs w) (hb : Below w.heap.size w w') : Stand w0 L ad zs w' :=
  ⟨h.ring.below hb, h.gt, h.row.of_block (hb.block L h.row.lt), h.bel.trans (hb.mono (by have := h.size; omega)), Nat.le_trans h.size hb.size⟩
theorem Stand.link {a b : Nat} (h : Stand w0 L ad zs w) (hr : RingV w' zs.length ad (nx (linkI zs a b)) (pv (linkI zs a b)) numV) (hb : Below (L + 1) w w') : Stand w0 L ad (linkI zs a b) w' := by
  refine ⟨by rw [linkI_len]; exact hr, by rw [linkI_len]; exact h.gt, ?_, h.bel.trans (hb.mono (by omega)), Nat.le_trans h.size hb.size⟩
  rw [linkI_len]
  exact h.row.of_block (hb.block L (by omega))
end


end Go.Proofs.Ytpdimdpphbobiaa
