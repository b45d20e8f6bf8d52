/-
  The small functions: Next, Prev, number, element, init; their contracts.
-/
import Derived.Test.YtpdimdpphbobiaaBase
namespace Go.Proofs.Ytpdimdpphbobiaa
open Go.RowKit

/-- Next of an element whose next is set. -/
theorem next_set (g n : Nat) (w : World) (h : w.cell? ⟨g, 0, none⟩ = some (.pointer (some ⟨n, 0, none⟩))) :
    Calls Try.prog 29 #[.pointer (some ⟨g, 0, none⟩)] w fun e w' => e = .returned (.pointer (some ⟨n, 0, none⟩)) ∧ w = w' := by
  go_enter Try.func29, Try.ntmps29
  go_wp2
  go_ret
  exact ⟨rfl, rfl⟩

theorem prev_set (g n p : Nat) (w : World) (h : w.cell? ⟨g, 0, none⟩ = some (.pointer (some ⟨n, 0, none⟩))) (h1 : w.cell? ⟨g, 1, none⟩ = some (.pointer (some ⟨p, 0, none⟩))) :
    Calls Try.prog 30 #[.pointer (some ⟨g, 0, none⟩)] w fun e w' => e = .returned (.pointer (some ⟨p, 0, none⟩)) ∧ w = w' := by
  go_enter Try.func30, Try.ntmps30
  go_wp2
  go_ret
  exact ⟨rfl, rfl⟩

theorem number_nil (w : World) :
    Calls Try.prog 28 #[.pointer none] w fun e w' => e = .returned (.int .i64 (-1)) ∧ w = w' := by
  go_enter Try.func28, Try.ntmps28
  go_wp2
  go_ret
  exact ⟨rfl, rfl⟩

/-- x.(int64) of an int64. -/
theorem assert_int (v : Value) (w : World) : (Instr.typeAssert (.iface 2 v) 20 2 false).run Try.prog w = .ok v w := by kernel_rfl

theorem number_set (g : Nat) (k : Int) (w : World) (h : w.cell? ⟨g, 2, none⟩ = some (.iface 2 (.int .i64 k))) :
    Calls Try.prog 28 #[.pointer (some ⟨g, 0, none⟩)] w fun e w' => e = .returned (.int .i64 k) ∧ w = w' := by
  have ha := assert_int
  go_enter Try.func28, Try.ntmps28
  go_wp2
  go_ret
  exact ⟨rfl, rfl⟩

/-- init of a ring of one element. -/
theorem init_any (g : Nat) (x y z : Value) (w : World) (h : Blk w g 54 #[x, y, z]) :
    Calls Try.prog 41 #[.pointer (some ⟨g, 0, none⟩)] w fun e w' => e = .returned (.pointer (some ⟨g, 0, none⟩)) ∧ (w.setCell ⟨g, 0, none⟩ (ptr g)).setCell ⟨g, 1, none⟩ (ptr g) = w' := by
  have c0 : w.cell? ⟨g, 0, none⟩ = some x := h.cell 0
  have c1 : w.cell? ⟨g, 1, none⟩ = some y := h.cell 1
  have f0 : w.frozen? ⟨g, 0, none⟩ = false := h.frozen 0
  have f1 : w.frozen? ⟨g, 1, none⟩ = false := h.frozen 1
  have H := hide h
  clear h
  go_enter Try.func41, Try.ntmps41
  go_wp2
  go_ret
  exact ⟨rfl, rfl⟩

end Go.Proofs.Ytpdimdpphbobiaa
