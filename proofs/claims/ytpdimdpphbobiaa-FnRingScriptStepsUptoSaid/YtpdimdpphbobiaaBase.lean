/-
  Words for memory: blocks, lists and rings in memory, what a call leaves as it was. No function of the program in sight.
-/
import Derived.Test.YtpdimdpphbobiaaProg
import Derived.Test.YtpdimdpphbobiaaMath
import Derived.WalkKit
import Derived.WalkSpells
import Derived.WalkLawsBesides
import Derived.LaidEqlPtr
import Derived.Deep.OwnRows
import Derived.Deep.Draws
import Derived.Deep.LoopGhost
import Derived.Deep.AppendLies
namespace Go.Proofs.Ytpdimdpphbobiaa
open Go.RowKit

theorem ret_b {a b : Bool} (h : a = b) : Ending.returned (.bool a) = .returned (.bool b) := by rw [h]
theorem ret_i {a b : Int} (h : a = b) : Ending.returned (.int .i64 a) = .returned (.int .i64 b) := by rw [h]
theorem hide {p : Prop} (h : p) : Hid p := h

/-- A pointer to the head of block g. -/
abbrev ptr (g : Nat) : Value := .pointer (some ⟨g, 0, none⟩)

/-! ### A block that is known whole -/

def Blk (w : World) (g : Nat) (t : TypeId) (cs : Array Value) : Prop := w.heap[g]? = some (.cells cs t (0, 0))

section
variable {w w' : World} {g : Nat} {t : TypeId} {cs : Array Value}
theorem Blk.lt (h : Blk w g t cs) : g < w.heap.size := by
  rcases Nat.lt_or_ge g w.heap.size with hlt | hge
  · exact hlt
  · unfold Blk at h; rw [Array.getElem?_eq_none hge] at h; cases h
theorem Blk.cell (h : Blk w g t cs) (i : Nat) : w.cell? ⟨g, i, none⟩ = cs[i]? := cell_of_row w g i cs t (0, 0) h
theorem Blk.frozen (h : Blk w g t cs) (i : Nat) : w.frozen? ⟨g, i, none⟩ = false := by
  unfold Blk at h
  simp [World.frozen?, h]
theorem Blk.new (w : World) (t : TypeId) (cs : Array Value) : Blk (w.alloc (.cells cs t)) w.heap.size t cs := heap_alloc_new w _
theorem Blk.alloc (h : Blk w g t cs) (o : Obj) : Blk (w.alloc o) g t cs := (Below.heap_alloc w o g h.lt).trans h
theorem Blk.set_ (h : Blk w g t cs) (i : Nat) (u : Value) : Blk (w.setCell ⟨g, i, none⟩ u) g t (cs.setIfInBounds i u) := by
  unfold Blk at h ⊢
  simp [World.setCell, Array.getElem?_modify, h]
theorem Blk.far (h : Blk w g t cs) {p : Addr} (hp : g ≠ p.block) (u : Value) : Blk (w.setCell p u) g t cs := (Below.heap_setCell w p u g hp).trans h
theorem Blk.below {B : Nat} (h : Blk w g t cs) (hb : Below B w w') (hg : g < B) : Blk w' g t cs := (hb.block g hg).trans h
theorem Blk.grown {row : Option Nat} (h : Blk w g t cs) (hb : w.grownBy w' row) (hg : some g ≠ row) : Blk w' g t cs := (hb.block g h.lt hg).trans h
end

/-! ### What has turned -/

/-- Only blocks of S, and new ones, have turned. -/
structure Kept (S : Nat → Prop) (w w' : World) : Prop where
  os : w'.os = w.os
  tape : w'.tape = w.tape
  output : w'.output = w.output
  size : w.heap.size ≤ w'.heap.size
  block : ∀ k, k < w.heap.size → ¬ S k → w'.heap[k]? = w.heap[k]?

theorem Kept.refl (S : Nat → Prop) (w : World) : Kept S w w := ⟨rfl, rfl, rfl, Nat.le_refl _, fun _ _ _ => rfl⟩
theorem Kept.trans {S : Nat → Prop} {a b c : World} (h : Kept S a b) (k : Kept S b c) : Kept S a c :=
  ⟨k.os.trans h.os, k.tape.trans h.tape, k.output.trans h.output, Nat.le_trans h.size k.size, fun i hi hs => (k.block i (Nat.lt_of_lt_of_le hi h.size) hs).trans (h.block i hi hs)⟩
theorem Kept.setCell {S : Nat → Prop} {a w : World} (h : Kept S a w) {p : Addr} (hp : S p.block ∨ a.heap.size ≤ p.block) (u : Value) : Kept S a (w.setCell p u) :=
  ⟨h.os, h.tape, h.output, by simpa [World.setCell] using h.size, fun k hk hs => (Below.heap_setCell _ _ _ _ (fun e => by
    rcases hp with hp | hp
    · exact hs (e ▸ hp)
    · omega)).trans (h.block k hk hs)⟩
theorem Kept.below {S : Nat → Prop} {w w' : World} (h : Kept S w w') {B : Nat} (hB : B ≤ w.heap.size) (hs : ∀ k, k < B → ¬ S k) : Below B w w' :=
  ⟨h.os, h.tape, h.output, h.size, fun k hk => h.block k (by omega) (hs k hk)⟩
theorem Kept.of_below {S : Nat → Prop} {w w' : World} (h : Below w.heap.size w w') : Kept S w w' := ⟨h.os, h.tape, h.output, h.size, fun k hk _ => h.block k hk⟩

/-! ### A slice that reads as a list of numbers -/

/-- The slice value v reads as the cells F 0 .. F (n - 1), in a block below the heap's end. -/
def Cells (w : World) (v : Value) (n : Nat) (F : Nat → Value) : Prop :=
  ∃ A c, v = .slice A n c ∧ n ≤ c ∧ c ≤ maxLen ∧ (0 < n → ∃ b off, A = some ⟨b, off, none⟩ ∧ b < w.heap.size ∧ ∀ i, i < n → w.cell? ⟨b, off + i, none⟩ = some (F i))

/-- The slice value v reads as the numbers xs. -/
def Ints (w : World) (v : Value) (xs : List Int) : Prop := Cells w v xs.length (fun i => .int .i64 (xs.getD i 0))

theorem Cells.below {w w' : World} {v : Value} {n : Nat} {F : Nat → Value} (h : Cells w v n F) (hb : Below w.heap.size w w') : Cells w' v n F := by
  obtain ⟨A, c, hv, hn, hc, h⟩ := h
  refine ⟨A, c, hv, hn, hc, fun h0 => ?_⟩
  obtain ⟨b, off, hA, hlt, hcell⟩ := h h0
  exact ⟨b, off, hA, Nat.lt_of_lt_of_le hlt hb.size, fun i hi => (hb.cell (p := ⟨b, off + i, none⟩) hlt).trans (hcell i hi)⟩
theorem Ints.below {w w' : World} {v : Value} {xs : List Int} (h : Ints w v xs) (hb : Below w.heap.size w w') : Ints w' v xs := Cells.below h hb
theorem Cells.congr {w : World} {v : Value} {n : Nat} {F G : Nat → Value} (h : Cells w v n F) (e : ∀ i, i < n → F i = G i) : Cells w v n G := by
  obtain ⟨A, c, hv, hn, hc, h⟩ := h
  refine ⟨A, c, hv, hn, hc, fun h0 => ?_⟩
  obtain ⟨b, off, hA, hlt, hcell⟩ := h h0
  exact ⟨b, off, hA, hlt, fun i hi => (hcell i hi).trans (by rw [e i hi])⟩

theorem cells_of_own {w : World} {base : Nat} {e : TypeId} {v : Value} {n : Nat} {xs : List Value} {F : Nat → Value} (h : w.ownsRow base e 1 v n xs) (hF : ∀ i, i < n → xs[i]? = some (F i)) : Cells w v n F := by
  rcases h.2 with ⟨rfl, rfl⟩ | ⟨g, cap, cur, rfl, _, hg, hnc, hm, _, _⟩
  · exact ⟨none, 0, rfl, Nat.le_refl _, Nat.zero_le _, fun h => absurd h (by omega)⟩
  · refine ⟨_, cap, rfl, hnc, hm, fun _ => ⟨g, 0, rfl, (Array.getElem?_eq_some_iff.1 hg).1, fun i hi => ?_⟩⟩
    have := h.cells (g := g) rfl i (F i) (hF i hi)
    rwa [show (⟨g, 0, none⟩ : Addr).add i = ⟨g, 0 + i, none⟩ by unfold Addr.add; split <;> simp_all] at this

theorem ints_of_own {w : World} {base : Nat} {e : TypeId} {v : Value} {xs : List Int} (h : w.ownsRow base e 1 v xs.length (xs.map (Value.int .i64))) : Ints w v xs :=
  cells_of_own h fun i hi => by simp [List.getElem?_map, List.getElem?_eq_getElem hi, List.getD]

theorem own_mono {w : World} {base base' : Nat} {e : TypeId} {size : Nat} {v : Value} {n : Nat} {xs : List Value} (h : w.ownsRow base e size v n xs) (hb : base' ≤ base) : w.ownsRow base' e size v n xs := by
  obtain ⟨h1, h2⟩ := h
  refine ⟨h1, ?_⟩
  rcases h2 with h2 | ⟨g, cap, cur, hv, hg, r⟩
  · exact .inl h2
  · exact .inr ⟨g, cap, cur, hv, Nat.le_trans hb hg, r⟩

theorem own_below {w w' : World} {base B : Nat} {e : TypeId} {size : Nat} {v : Value} {n : Nat} {xs : List Value} (h : w.ownsRow base e size v n xs) (hb : Below B w w') (hB : w.heap.size ≤ B) : w'.ownsRow base e size v n xs := by
  obtain ⟨h1, h2⟩ := h
  refine ⟨h1, ?_⟩
  rcases h2 with h2 | ⟨g, cap, cur, hv, hg, hh, r⟩
  · exact .inl h2
  · exact .inr ⟨g, cap, cur, hv, hg, by rw [hb.block g (Nat.lt_of_lt_of_le (Array.getElem?_eq_some_iff.1 hh).1 hB)]; exact hh, r⟩

theorem cells_of_row {w : World} {b : Nat} {t : TypeId} {n : Nat} {F : Nat → Value} (h : w.rowIs b t n F) (hn : n ≤ maxLen) : Cells w (.slice (some ⟨b, 0, none⟩) n n) n F :=
  ⟨_, n, rfl, Nat.le_refl _, hn, fun _ => ⟨b, 0, rfl, h.lt, fun i hi => by rw [Nat.zero_add]; exact h.cell hi⟩⟩

/-- Nothing came in. -/
theorem ints_none (w : World) : Ints w (.slice none 0 0) [] := ⟨none, 0, rfl, Nat.le_refl _, Nat.zero_le _, fun h => absurd h (by simp)⟩

/-- A slice of numbers that came in, opened. -/
theorem ints_open {w : World} {x : Addr} {l c : Nat} {zs : List Int} (hl : l ≤ c) (hm : c ≤ maxLen) (hz : zs.length = c) (hcell : ∀ i, i < zs.length → w.cell? (x.add i) = some (.int .i64 (zs.getD i 0))) (hb : 0 < l → x.block < w.heap.size) :
    Ints w (.slice (some x) l c) (zs.take l) := by
  have e : (zs.take l).length = l := by rw [List.length_take]; omega
  refine ⟨_, c, by rw [e], by omega, hm, fun h0 => ?_⟩
  obtain ⟨b, off, spot⟩ := x
  have hc0 := hcell 0 (by omega)
  have hspot : spot = none := by simpa [Addr.add] using World.cell?_spot hc0
  subst hspot
  refine ⟨b, off, rfl, hb (by omega), fun i hi => ?_⟩
  have := hcell i (by omega)
  rw [show (⟨b, off, none⟩ : Addr).add i = ⟨b, off + i, none⟩ by unfold Addr.add; split <;> simp_all] at this
  rw [this]
  simp [List.getD, show i < l by omega]

/-- A slice of numbers in a row of the call's own. -/
def Fresh (B : Nat) (w : World) (v : Value) (xs : List Int) : Prop := w.ownsRow B 2 1 v xs.length (xs.map (Value.int .i64))
theorem Fresh.ints {B : Nat} {w : World} {v : Value} {xs : List Int} (h : Fresh B w v xs) : Ints w v xs := ints_of_own h
theorem Fresh.mono {B B' : Nat} {w : World} {v : Value} {xs : List Int} (h : Fresh B w v xs) (hB : B' ≤ B) : Fresh B' w v xs := own_mono h hB
theorem Fresh.below {B : Nat} {w w' : World} {v : Value} {xs : List Int} (h : Fresh B w v xs) (hb : Below w.heap.size w w') : Fresh B w' v xs := own_below h hb (Nat.le_refl _)

theorem Ints.form {w : World} {v : Value} {xs : List Int} (h : Ints w v xs) {n : Nat} (hn : xs.length = n) : ∃ A c, v = .slice A n c := by
  obtain ⟨A, c, hv, _⟩ := h
  exact ⟨A, c, by rw [hv, hn]⟩
theorem Fresh.form {B : Nat} {w : World} {v : Value} {xs : List Int} (h : Fresh B w v xs) {n : Nat} (hn : xs.length = n) : ∃ A c, v = .slice A n c := h.ints.form hn

/-- What is known of a slice that is written out. -/
theorem Cells.open_ {w : World} {A : Option Addr} {n m c : Nat} {F : Nat → Value} (h : Cells w (.slice A n c) m F) : m = n ∧ n ≤ c ∧ c ≤ maxLen ∧ (0 < n → ∃ b off, A = some ⟨b, off, none⟩ ∧ b < w.heap.size ∧ ∀ k, k < n → w.cell? ⟨b, off + k, none⟩ = some (F k)) := by
  obtain ⟨A', c', he, hn, hc, h⟩ := h
  injection he with e1 e2 e3
  subst e1 e2 e3
  exact ⟨rfl, hn, hc, h⟩
theorem Ints.open_ {w : World} {A : Option Addr} {n c : Nat} {xs : List Int} (h : Ints w (.slice A n c) xs) : xs.length = n ∧ n ≤ c ∧ c ≤ maxLen ∧ (0 < n → ∃ b off, A = some ⟨b, off, none⟩ ∧ b < w.heap.size ∧ ∀ k, k < n → w.cell? ⟨b, off + k, none⟩ = some (.int .i64 (xs.getD k 0))) :=
  Cells.open_ h

theorem cells_new {w : World} {t : TypeId} {cs : Array Value} {F : Nat → Value} (hF : ∀ i, i < cs.size → cs[i]? = some (F i)) (hn : cs.size ≤ maxLen) : Cells (w.alloc (.cells cs t)) (.slice (some ⟨w.heap.size, 0, none⟩) cs.size cs.size) cs.size F :=
  cells_of_row (World.rowIs_alloc w cs t F hF) hn

end Go.Proofs.Ytpdimdpphbobiaa
