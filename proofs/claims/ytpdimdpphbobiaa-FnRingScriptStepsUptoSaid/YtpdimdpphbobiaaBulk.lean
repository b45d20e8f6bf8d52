/-
  What the bound of the second form gives: a slice's length.
-/
import Derived.Test.YtpdimdpphbobiaaRows
import Derived.ProofKit
import Derived.OpenShut
namespace Go.Proofs.Ytpdimdpphbobiaa.bulk
open Go.ChangeShapes Go.WideShapes Go.ChangeAt Go.RowKit

theorem pos {H : Type} (d : DataW H) : 1 ≤ Rows.uptoBulk d := by
  cases d with
  | lit l => cases l <;> simp [Rows.uptoBulk]
  | nil => simp [Rows.uptoBulk]
  | ptr d => simp [Rows.uptoBulk]
  | slice elems spare => simp [Rows.uptoBulk]
  | agg parts => simp [Rows.uptoBulk]
  | iface t d => simp [Rows.uptoBulk]
  | map entries => simp [Rows.uptoBulk]
  | held h => simp [Rows.uptoBulk]

theorem count {H : Type} (l : List (DataW H)) : l.length ≤ Rows.uptoBulkAll l := by
  induction l with
  | nil => exact Nat.zero_le _
  | cons x r ih => have := pos x; rw [Rows.uptoBulkAll, List.length_cons]; omega

theorem part {H : Type} {d : DataW H} {l : List (DataW H)} (h : d ∈ l) : Rows.uptoBulk d ≤ Rows.uptoBulkAll l := by
  induction h with
  | head r => rw [Rows.uptoBulkAll]; omega
  | tail x _ ih => rw [Rows.uptoBulkAll]; omega

/-- A slice among what is read is no longer than the bound. -/
theorem slice {H : Type} {l elems spare : List (DataW H)} (hk : Rows.uptoSmall H l = true) (hm : DataW.slice elems spare ∈ l) : elems.length ≤ 1048576 := by
  have h1 : Rows.uptoBulkAll l ≤ 1048576 := of_decide_eq_true hk
  have h2 := part hm
  have h3 := count elems
  rw [Rows.uptoBulk] at h2
  omega

end Go.Proofs.Ytpdimdpphbobiaa.bulk
