/-
  Regions that draw their order, whose calls only make memory: one walk serves every order.
-/
import Derived.Test.YtpdimdpphbobiaaBase
import Derived.Deep.QuietTactic
import Derived.BigQuiet
namespace Go.Proofs.Ytpdimdpphbobiaa
open Go.RowKit

/-! ### A region that draws its order, whose calls only make memory -/

/-- The worlds in which nothing that was there in w0 has turned. -/
def LIw (w0 : World) : Type := { u : World // Below w0.heap.size w0 u }
instance LIw.some (w0 : World) : Nonempty (LIw w0) := ⟨⟨w0, Below.refl _ _⟩⟩
def LIw.w {w0 : World} (u : LIw w0) : World := u.1
theorem LIw.bel {w0 : World} (u : LIw w0) : Below w0.heap.size w0 u.w := u.2

theorem li_of {P : Program} {f : FuncId} {args : Array Value} {w0 : World} {v : Value} (h : ∀ u, Below w0.heap.size w0 u → Calls P f args u fun e w' => e = .returned v ∧ Below u.heap.size u w') (u : LIw w0) :
    Calls P f args u.w fun e w' => e = .returned v ∧ ∃ u' : LIw w0, w' = u'.w :=
  (h u.w u.bel).mono fun _ w' ⟨he, hb⟩ => ⟨he, ⟨w', u.bel.trans (hb.mono u.bel.size)⟩, rfl⟩

theorem li_same {P : Program} {f : FuncId} {args : Array Value} {w0 : World} {v : Value} (h : ∀ u, Calls P f args u fun e w' => e = .returned v ∧ u = w') (u : LIw w0) :
    Calls P f args u.w fun e w' => e = .returned v ∧ ∃ u' : LIw w0, w' = u'.w :=
  (h u.w).mono fun _ _ ⟨he, hw⟩ => ⟨he, u, hw.symm⟩

theorem li_cell {w0 : World} {p : Addr} {x : Value} (h : w0.cell? p = some x) (hp : p.block < w0.heap.size) (u : LIw w0) : u.w.cell? p = some x := (u.bel.cell hp).trans h

/-- One walk, in the order of the text, serves every order: each operation yields one value in every world of the class. -/
theorem wp_region_li {P : Program} {id : Nat} {Q : Exit → Act → World → Prop} {a : Act} {w : World} {l : List Oper} (w0 : World) (hm : P.follows .mixedOrders = true) (hB : Region.lexB .any l.toArray = true) (h0 : Below w0.heap.size w0 w)
    (h : wpQuiet P l.toArray (fun w' => ∃ u : LIw w0, w' = u.w) (fun a' => ∀ w', (∃ u : LIw w0, w' = u.w) → Q .normal a' w') l a) : (Code.region id l.toArray true).wp P Q a w :=
  wp_region_quiet (C := fun w' => ∃ u : LIw w0, w' = u.w) hm hB ⟨⟨w.drew, h0.drew⟩, rfl⟩ (by simpa using h)

end Go.Proofs.Ytpdimdpphbobiaa
