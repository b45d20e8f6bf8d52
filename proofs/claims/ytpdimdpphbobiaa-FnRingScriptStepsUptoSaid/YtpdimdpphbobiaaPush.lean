/-
  One result more behind a slice of slices.
-/
import Derived.Test.YtpdimdpphbobiaaLead
namespace Go.Proofs.Ytpdimdpphbobiaa
open Go.RowKit

theorem inner_tag {B : Nat} {w w' : World} {r : List (List Int)} {vs : List Value} (hi : ∀ (j : Nat) (x : List Int), r[j]? = some x → ∃ s, vs[j]? = some s ∧ Fresh B w s x) (ht : Tag 2 w w') :
    ∀ (j : Nat) (x : List Int), r[j]? = some x → ∃ s, vs[j]? = some s ∧ Fresh B w' s x := fun j x hj => by
  obtain ⟨s, h1, h2⟩ := hi j x hj
  exact ⟨s, h1, h2.tag ht⟩

theorem one_new2 (W : World) (o : Obj) (x : Value) (t : TypeId) : ∀ j u, [x][j]? = some u → ((W.alloc o).alloc (.cells #[x] t)).cell? ((⟨W.heap.size + 1, 0, none⟩ : Addr).add j) = some u := by
  have h := one_new (W.alloc o) x t
  rwa [show (W.alloc o).heap.size = W.heap.size + 1 by simp] at h

/-- A list that lies there already. -/
theorem push_row {B : Nat} {w0 W w1 : World} {u v' s : Value} {r : List (List Int)} {vs : List Value} {x : List Int} (hB : B ≤ w0.heap.size) (hbel : Below B w0 W) (ho : W.ownsRow B 22 1 u r.length vs)
    (hi : ∀ (j : Nat) (x : List Int), r[j]? = some x → ∃ s, vs[j]? = some s ∧ Fresh B W s x) (hs : Fresh B W s x)
    (ho' : w1.ownsRow B 22 1 v' (r.length + 1) (vs ++ [s])) (hg : (W.alloc (.cells #[s] 22)).grownBy w1 u.ownBlock) (hnil : v' = .slice none 0 0 ↔ u = .slice none 0 0 ∧ 1 = 0) :
    Res B w1 v' (r ++ [x]) ∧ Below B w0 w1 ∧ ∀ e, e ≠ 22 → Tag e W w1 := by
  have ho2 : (W.alloc (.cells #[s] 22)).ownsRow B 22 1 u r.length vs := own_tag ho (tag_alloc _ _)
  have hsz := hbel.size
  refine ⟨Res.push rfl ho2 (inner_tag hi (tag_alloc _ _)) (hs.tag (tag_alloc _ _)) ho' hg (fun e => by have := (hnil.1 e).2; omega), ?_, fun e he => (tag_alloc W _).trans (tag_grown hg ho2 he)⟩
  exact (hbel.alloc (by omega) _).grown hg (by simp; omega) (fun k hk => (ho.lt k hk).1)

/-- A list of one number, made for it. -/
theorem push_one {B : Nat} {w0 W w1 : World} {u v' : Value} {r : List (List Int)} {vs : List Value} {x : Int} (hB : B ≤ w0.heap.size) (hbel : Below B w0 W) (ho : W.ownsRow B 22 1 u r.length vs)
    (hi : ∀ (j : Nat) (x : List Int), r[j]? = some x → ∃ s, vs[j]? = some s ∧ Fresh B W s x)
    (ho' : w1.ownsRow B 22 1 v' (r.length + 1) (vs ++ [.slice (some ⟨W.heap.size, 0, none⟩) 1 1]))
    (hg : ((W.alloc (.cells #[.int .i64 x] 2)).alloc (.cells #[.slice (some ⟨W.heap.size, 0, none⟩) 1 1] 22)).grownBy w1 u.ownBlock) (hnil : v' = .slice none 0 0 ↔ u = .slice none 0 0 ∧ 1 = 0) :
    Res B w1 v' (r ++ [[x]]) ∧ Below B w0 w1 ∧ ∀ e, e ≠ 22 → Tag e W w1 := by
  have hsz := hbel.size
  obtain ⟨h1, h2, h3⟩ := push_row (W := W.alloc (.cells #[.int .i64 x] 2)) (w0 := w0) hB (hbel.alloc (by omega) _) (own_tag ho (tag_alloc _ _)) (inner_tag hi (tag_alloc _ _)) (fresh_one W (by omega) x) ho' hg hnil
  exact ⟨h1, h2, fun e he => (tag_alloc W _).trans (h3 e he)⟩

/-- A walk stands still at an append. -/
theorem stopApp {P : Program} {ops : Array Oper} {Q : Exit → Act → World → Prop} {rest : List Oper} {s x : Operand} {t u ty : TypeId} {dst : Option Tmp} {pos : String} {after : Array Edge} {a : Act} {w : World}
    (h : Hid (wpList P ops Q ({ dst := dst, op := .call { callee := .builtin .append, args := #[s, x], argTypes := #[t, u] }, type := ty, pos := pos, after := after, guard := none } :: rest) a w)) :
    wpList P ops Q ({ dst := dst, op := .call { callee := .builtin .append, args := #[s, x], argTypes := #[t, u] }, type := ty, pos := pos, after := after, guard := none } :: rest) a w := h.out

/-- What Played computes. -/
def playedI (zs ks ls bs : List Int) : Option (List Int × List (List Int)) := if ringsB zs = true ∧ ls.length = ks.length ∧ bs.length = ks.length then playI ks ls bs zs ks.length else none

end Go.Proofs.Ytpdimdpphbobiaa
