/-
  Some slices of numbers of the call's own, apart from one another: an append to one leaves the others.
-/
import Derived.Test.YtpdimdpphbobiaaLC2
namespace Go.Proofs.Ytpdimdpphbobiaa
open Go.RowKit

theorem own_block {e : TypeId} {B size n g c : Nat} {w w' : World} {xs : List Value} (h : w.ownsRow B e size (.slice (some ⟨g, 0, none⟩) n c) n xs) (hb : w'.heap[g]? = w.heap[g]?) : w'.ownsRow B e size (.slice (some ⟨g, 0, none⟩) n c) n xs := by
  obtain ⟨h1, h2⟩ := h
  refine ⟨h1, ?_⟩
  rcases h2 with ⟨h2, _⟩ | ⟨g', cap, cur, hv, hg, hh, r⟩
  · cases h2
  · have e1 : g = g' := by injection hv with hv _ _; injection hv with hv; injection hv
    subst e1
    exact .inr ⟨g, cap, cur, hv, hg, hb.trans hh, r⟩

/-- The slices that lie there: block, capacity, numbers. -/
structure Pack (B : Nat) (w : World) (l : List (Nat × Nat × List Int)) : Prop where
  row : ∀ e ∈ l, Fresh B w (.slice (some ⟨e.1, 0, none⟩) e.2.2.length e.2.1) e.2.2
  apart : (l.map (·.1)).Nodup

section
variable {B : Nat} {w w0 w1 : World} {l l1 l2 : List (Nat × Nat × List Int)} {g c g' c' n : Nat} {xs : List Int} {x : Int}
theorem fresh_lt {n : Nat} (h : w.ownsRow B 2 1 (.slice (some ⟨g, 0, none⟩) n c) n (xs.map (Value.int .i64))) : g < w.heap.size := by
  rcases h.2 with ⟨h2, _⟩ | ⟨g', cap, cur, hv, _, hh, _⟩
  · cases h2
  · have e1 : g = g' := by injection hv with hv _ _; injection hv with hv; injection hv
    subst e1
    exact heap_lt hh
theorem Pack.nil (B : Nat) (w : World) : Pack B w [] := ⟨fun _ h => (by cases h), List.nodup_nil⟩
theorem Pack.below (h : Pack B w l) (hb : Below w.heap.size w w1) : Pack B w1 l := ⟨fun e he => (h.row e he).below hb, h.apart⟩
/-- One more, in a block of its own. -/
theorem Pack.more (h : Pack B w l) (hf : Fresh B w1 (.slice (some ⟨g, 0, none⟩) xs.length c) xs) (hg : w.heap.size ≤ g) (hb : Below w.heap.size w w1) : Pack B w1 (l ++ [(g, c, xs)]) := by
  refine ⟨fun e he => ?_, ?_⟩
  · rcases List.mem_append.1 he with he | he
    · exact (h.row e he).below hb
    · rw [List.mem_singleton] at he
      subst he
      exact hf
  · rw [List.map_append]
    refine List.nodup_append.2 ⟨h.apart, by simp, fun a ha b hb2 => ?_⟩
    obtain ⟨e, he, rfl⟩ := List.mem_map.1 ha
    have hlt := fresh_lt (h.row e he)
    simp at hb2
    omega
/-- An empty one is made. -/
theorem Pack.start (h : Pack B w l) (hB : B ≤ w.heap.size) : Pack B (w.alloc (.cells #[] 2)) (l ++ [(w.heap.size, 0, [])]) :=
  h.more (World.ownsRow_made w #[] 0 hB (Nat.zero_le _) rfl) (Nat.le_refl _) ((Below.refl _ _).alloc (Nat.le_refl _) _)
theorem Pack.get (h : Pack B w (l1 ++ (g, c, xs) :: l2)) : Fresh B w (.slice (some ⟨g, 0, none⟩) xs.length c) xs := h.row (g, c, xs) (by simp)
/-- One number more behind one of them. -/
theorem Pack.push (h : Pack B w (l1 ++ (g, c, xs) :: l2)) (hn : xs.length = n) (hB : B ≤ w0.heap.size) (hbel : Below B w0 w) {o : Obj}
    (hown : w1.ownsRow B 2 1 (.slice (some ⟨g', 0, none⟩) (n + 1) c') (n + 1) (xs.map (Value.int .i64) ++ [.int .i64 x])) (hg : (w.alloc o).grownBy w1 (some g)) (hlies : some g = some g' ∨ g' = (w.alloc o).heap.size) :
    Pack B w1 (l1 ++ (g', c', xs ++ [x]) :: l2) ∧ Below B w0 w1 := by
  have hsz := hbel.size
  have hgl := fresh_lt h.get
  have hgB : B ≤ g := by
    rcases h.get.2 with ⟨h2, _⟩ | ⟨g', cap, cur, hv, h3, _⟩
    · cases h2
    · have e1 : g = g' := by injection hv with hv _ _; injection hv with hv; injection hv
      subst e1
      exact h3
  have hnd := h.apart
  rw [List.map_append, List.map_cons] at hnd
  obtain ⟨n1, n2, n3⟩ := List.nodup_append.1 hnd
  obtain ⟨n4, n5⟩ := List.nodup_cons.1 n2
  have other : ∀ e ∈ l1 ++ l2, e.1 ≠ g := fun e he => by
    rcases List.mem_append.1 he with he | he
    · exact n3 _ (List.mem_map.2 ⟨e, he, rfl⟩) _ (by simp)
    · intro e1
      exact n4 (List.mem_map.2 ⟨e, he, e1⟩)
  have olt : ∀ e ∈ l1 ++ l2, e.1 < w.heap.size := fun e he => fresh_lt (h.row e (by
    rcases List.mem_append.1 he with he | he
    · simp [he]
    · simp [he]))
  have new : ∀ e ∈ l1 ++ l2, e.1 ≠ g' := fun e he => by
    rcases hlies with hl | hl
    · injection hl with hl
      rw [← hl]
      exact other e he
    · have := olt e he
      simp at hl
      omega
  have stand : ∀ e ∈ l1 ++ l2, Fresh B w1 (.slice (some ⟨e.1, 0, none⟩) e.2.2.length e.2.1) e.2.2 := fun e he => by
    have hf := h.row e (by
      rcases List.mem_append.1 he with he | he
      · simp [he]
      · simp [he])
    refine own_block hf ?_
    have hlt := olt e he
    rw [hg.block e.1 (by simp; omega) (fun e2 => other e he (by injection e2)), Below.heap_alloc w o e.1 hlt]
  refine ⟨⟨fun e he => ?_, ?_⟩, (hbel.alloc (by omega) o).grown hg (by simp; omega) (fun k hk => by injection hk with hk; omega)⟩
  · rcases List.mem_append.1 he with he | he
    · exact stand e (List.mem_append.2 (.inl he))
    · rcases List.mem_cons.1 he with rfl | he
      · show w1.ownsRow B _ 1 (.slice (some ⟨g', 0, none⟩) (xs ++ [x]).length c') (xs ++ [x]).length ((xs ++ [x]).map (Value.int .i64))
        rw [List.length_append, hn, List.map_append]
        exact hown
      · exact stand e (List.mem_append.2 (.inr he))
  · rw [List.map_append, List.map_cons]
    refine List.nodup_append.2 ⟨n1, List.nodup_cons.2 ⟨fun hm => ?_, n5⟩, fun a ha b hb => ?_⟩
    · obtain ⟨e, he, e1⟩ := List.mem_map.1 hm
      exact new e (List.mem_append.2 (.inr he)) e1
    · obtain ⟨e, he, rfl⟩ := List.mem_map.1 ha
      rcases List.mem_cons.1 hb with rfl | hb
      · exact new e (List.mem_append.2 (.inl he))
      · exact n3 _ (List.mem_map.2 ⟨e, he, rfl⟩) _ (List.mem_cons.2 (.inr hb))
end

theorem nums_succ (f : Nat → Nat) (k : Nat) : nums f (k + 1) = nums f k ++ [(f k : Int)] := by unfold nums; rw [List.range_succ, List.map_append]; rfl

end Go.Proofs.Ytpdimdpphbobiaa
