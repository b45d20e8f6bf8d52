/-
  Some slices of numbers of the call's own, apart from one another: an append to one leaves the others.
-/
import Derived.Test.YtpdimdpphbobiaaLC2
namespace Go.Proofs.Ytpdimdpphbobiaa
open Go.RowKit

theorem own_block {e : TypeId} {B size n g c : Nat} {w w' : World} {xs : List Value} (h : w.ownsRow B e size (.slice (some ⟨g, 0, none⟩) n c) n xs) (hb : w'.heap[g]? = w.heap[g]?) : w'.ownsRow B e size (.slice (some ⟨g, 0, none⟩) n c) n xs := by
  obtain ⟨h1, h2⟩ := h
  refine ⟨h1, ?_⟩
  rcases h2 with ⟨h2, _⟩ | ⟨g', cap, cur, hv, hg, hh, r⟩
  · cases h2
  · have e1 : g = g' := by injection hv with hv _ _; injection hv with hv; injection hv
    subst e1
    exact .inr ⟨g, cap, cur, hv, hg, hb.trans hh, r⟩

/-- The slices that lie there: block, capacity, numbers. -/
structure Pack (B : Nat) (w : World) (l : List (Nat × Nat × List Int)) : Prop where
  row : ∀ e ∈ l, Fresh B w (.slice (some ⟨e.1, 0, none⟩) e.2.2.length e.2.1) e.2.2
  apart : (l.map (·.1)).Nodup

section
variable {B : Nat} {w w0 w1 : World} {l l1 l2 : List (Nat × Nat × List Int)} {g c g' c' n : Nat} {xs : List Int} {x : Int}
theorem fresh_lt {n : Nat} (h : w.ownsRow B 2 1 (.slice (some ⟨g, 0, none⟩) n c) n (xs.map (Value.int .i64))) : g < w.heap.size := by
  rcases h.2 with ⟨h2, _⟩ | ⟨g', cap, cur, hv, _, hh, _⟩
  · cases h2
  · have e1 : g = g' := by injection hv with hv _ _; injection hv with hv; injection hv
    subst e1
    exact heap_lt hh
theorem Pack.nil (B : Nat) (w : World) : Pack B w [] := ⟨fun _ h => (by cases h), List.nodup_nil⟩
theorem Pack.below (h : Pack B w l) (hb : Below w.heap.size w w1) : Pack B w1 l := ⟨fun e he => (h.row e he).below hb, h.apart⟩
/-- One more, in a block of its own. -/
theorem Pack.more (h : Pack B w l) (hf : Fresh B w1 (.slice (some ⟨g, 0, none⟩) xs.length c) xs) (hg : w.heap.size ≤ g) (hb : Below w.heap.size w w1) : Pack B w1 (l ++ [(g, c, xs)]) := by
  refine ⟨fun e he => ?_, ?_⟩
  · rcases List.mem_append.1 he with he | he
    · exact (h.row e he).below hb
    · rw [List.mem_singleton] at he
      subst he
      exact hf
  · rw [List.map_append]
    refine List.nodup_append.2 ⟨h.apart, by simp, fun a ha b hb2 => ?_⟩
    obtain ⟨e, he, rfl⟩ := List.mem_map.1 ha
    have hlt := fresh_lt (h.row e he)
    simp at hb2
    omega
/-- An empty one is made. -/
theorem Pack.start (h : Pack B w l) (hB : B ≤ w.heap.size) : Pack B (w.alloc (.cells #[] 2)) (l ++ [(w.heap.size, 0, [])]) :=
  h.more (World.ownsRow_made w #[] 0 hB (Nat.zero_le _) rfl) (Nat.le_refl _) ((Below.refl _ _).alloc (Nat.le_refl _) _)
theorem Pack.get (h : Pack B w (l1 ++ (g, c, xs) :: l2)) : Fresh B w (.slice (some ⟨g, 0, none⟩) xs.length c) xs := h.row (g, c, xs) (by simp)
/-- One of them has grown: in its place, or in the block that was made last. -/
theorem Pack.grow {ys : List Int} {m : Nat} (h : Pack B w (l1 ++ (g, c, xs) :: l2)) (hn : xs.length = n) (hm : ys.length = m) (hB : B ≤ w0.heap.size) (hbel : Below B w0 w)
    (hown : w1.ownsRow B 2 1 (.slice (some ⟨g', 0, none⟩) (n + m) c') (n + m) (xs.map (Value.int .i64) ++ ys.map (Value.int .i64))) (hg : w.grownBy w1 (some g)) (hlies : g' = g ∨ g' = w.heap.size) :
    Pack B w1 (l1 ++ (g', c', xs ++ ys) :: l2) ∧ Below B w0 w1 := by
  have hsz := hbel.size
  have hgl := fresh_lt h.get
  have hgB : B ≤ g := by
    rcases h.get.2 with ⟨h2, _⟩ | ⟨g', cap, cur, hv, h3, _⟩
    · cases h2
    · have e1 : g = g' := by injection hv with hv _ _; injection hv with hv; injection hv
      subst e1
      exact h3
  have hnd := h.apart
  rw [List.map_append, List.map_cons] at hnd
  obtain ⟨n1, n2, n3⟩ := List.nodup_append.1 hnd
  obtain ⟨n4, n5⟩ := List.nodup_cons.1 n2
  have other : ∀ e ∈ l1 ++ l2, e.1 ≠ g := fun e he => by
    rcases List.mem_append.1 he with he | he
    · exact n3 _ (List.mem_map.2 ⟨e, he, rfl⟩) _ (by simp)
    · intro e1
      exact n4 (List.mem_map.2 ⟨e, he, e1⟩)
  have inl : ∀ e ∈ l1 ++ l2, e ∈ l1 ++ (g, c, xs) :: l2 := fun e he => by
    rcases List.mem_append.1 he with he | he
    · simp [he]
    · simp [he]
  have olt : ∀ e ∈ l1 ++ l2, e.1 < w.heap.size := fun e he => fresh_lt (h.row e (inl e he))
  have new : ∀ e ∈ l1 ++ l2, e.1 ≠ g' := fun e he => by
    rcases hlies with hl | hl
    · rw [hl]
      exact other e he
    · have := olt e he
      omega
  have stand : ∀ e ∈ l1 ++ l2, Fresh B w1 (.slice (some ⟨e.1, 0, none⟩) e.2.2.length e.2.1) e.2.2 := fun e he =>
    own_block (h.row e (inl e he)) (hg.block e.1 (olt e he) (fun e2 => other e he (by injection e2)))
  refine ⟨⟨fun e he => ?_, ?_⟩, hbel.grown hg (by omega) (fun k hk => by injection hk with hk; omega)⟩
  · rcases List.mem_append.1 he with he | he
    · exact stand e (List.mem_append.2 (.inl he))
    · rcases List.mem_cons.1 he with rfl | he
      · show w1.ownsRow B _ 1 (.slice (some ⟨g', 0, none⟩) (xs ++ ys).length c') (xs ++ ys).length ((xs ++ ys).map (Value.int .i64))
        rw [List.length_append, hn, hm, List.map_append]
        exact hown
      · exact stand e (List.mem_append.2 (.inr he))
  · rw [List.map_append, List.map_cons]
    refine List.nodup_append.2 ⟨n1, List.nodup_cons.2 ⟨fun hm => ?_, n5⟩, fun a ha b hb => ?_⟩
    · obtain ⟨e, he, e1⟩ := List.mem_map.1 hm
      exact new e (List.mem_append.2 (.inr he)) e1
    · obtain ⟨e, he, rfl⟩ := List.mem_map.1 ha
      rcases List.mem_cons.1 hb with rfl | hb
      · exact new e (List.mem_append.2 (.inl he))
      · exact n3 _ (List.mem_map.2 ⟨e, he, rfl⟩) _ (List.mem_cons.2 (.inr hb))
/-- One number more behind one of them. -/
theorem Pack.push (h : Pack B w (l1 ++ (g, c, xs) :: l2)) (hn : xs.length = n) (hB : B ≤ w0.heap.size) (hbel : Below B w0 w) {o : Obj}
    (hown : w1.ownsRow B 2 1 (.slice (some ⟨g', 0, none⟩) (n + 1) c') (n + 1) (xs.map (Value.int .i64) ++ [.int .i64 x])) (hg : (w.alloc o).grownBy w1 (some g)) (hlies : some g = some g' ∨ g' = (w.alloc o).heap.size) :
    Pack B w1 (l1 ++ (g', c', xs ++ [x]) :: l2) ∧ Below B w0 w1 :=
  (h.below ((Below.refl _ _).alloc (Nat.le_refl _) o)).grow (ys := [x]) hn rfl hB (hbel.alloc (by have := hbel.size; omega) o) hown hg (by
    rcases hlies with h | h
    · injection h with h
      exact .inl h.symm
    · exact .inr h)
end

/-- What an append of a slice of numbers reads. -/
theorem ints_src {w : World} {A : Option Addr} {n c : Nat} {xs : List Int} (h : Ints w (.slice A n c) xs) : (A = none → n = 0) ∧ ∀ ad, A = some ad → ∀ j u, (xs.map (Value.int .i64))[j]? = some u → w.cell? (ad.add j) = some u := by
  obtain ⟨hl, _, _, h⟩ := h.open_
  refine ⟨fun hA => ?_, fun ad hA j u hj => ?_⟩
  · rcases Nat.eq_zero_or_pos n with h0 | h0
    · exact h0
    · obtain ⟨b, off, e, _⟩ := h h0
      rw [hA] at e
      cases e
  · have hjl : j < xs.length := by
      rcases Nat.lt_or_ge j xs.length with hl | hl
      · exact hl
      · rw [List.getElem?_eq_none (by simpa using hl)] at hj; cases hj
    obtain ⟨b, off, e, hb, hcell⟩ := h (by omega)
    rw [hA] at e
    injection e with e
    subst e
    have := hcell j (by omega)
    rw [show (⟨b, off, none⟩ : Addr).add j = ⟨b, off + j, none⟩ by unfold Addr.add; split <;> simp_all, this]
    rw [List.getElem?_map, List.getElem?_eq_getElem hjl] at hj
    simp only [Option.map_some, Option.some.injEq] at hj
    rw [← hj]
    simp [List.getD, List.getElem?_eq_getElem hjl]

/-- append of a slice, or of nil, to an empty slice that was made just now. -/
theorem wpList_append_copy {P : Program} (w : World) {ops : Array Oper} {rest : List Oper} {o : Oper} {a : Act} {Q : Exit → Act → World → Prop} (hgd : o.guard = none) (s x : Operand) (t : TypeId)
    (ho : o.op = .call { callee := .builtin .append, args := #[s, x], argTypes := #[t, t] })
    (base : Nat) (e : TypeId) (i : TypeInfo) (z : Value) (size bytes : Nat) (ht : P.underlying t = some (.slice e)) (hi : P.info? e = some i) (hz : i.zero = some z)
    (hsize : i.size = size) (hby : i.bytes = bytes) (hzs : z.cells.size = size) (hsz : 0 < size)
    (g0 : Nat) (hs : a.eval s = .slice (some ⟨g0, 0, none⟩) 0 0) (hown : w.ownsRow base e size (.slice (some ⟨g0, 0, none⟩) 0 0) 0 [])
    (A : Option Addr) (m c : Nat) (news : List Value) (hx : a.eval x = .slice A m c) (hA : A = none → m = 0) (hl : news.length = m * size) (hnews : ∀ ad, A = some ad → ∀ j u, news[j]? = some u → w.cell? (ad.add j) = some u) (h1 : ∀ u ∈ news, u.oneCell' = true)
    (h63 : m ≤ maxLen) (hbytes : m * bytes ≤ 140737488355328) (hbase : base ≤ w.heap.size)
    (h : ∀ g cap w', w'.ownsRow base e size (.slice (some ⟨g, 0, none⟩) m cap) m news → w.grownBy w' (some g0) → (g = g0 ∨ g = w.heap.size) → wpList P ops Q rest (a.put o.dst (.slice (some ⟨g, 0, none⟩) m cap)) w') : wpList P ops Q (o :: rest) a w := by
  cases A with
  | none =>
    obtain rfl := hA rfl
    obtain rfl : news = [] := List.eq_nil_of_length_eq_zero (by simpa using hl)
    have hr : (Builtin.append_ #[t, t] o.type #[.slice (some ⟨g0, 0, none⟩) 0 0, .slice none 0 c]).run P w = .ok (.slice (some ⟨g0, 0, none⟩) 0 0) w := by
      simp [Builtin.append_, run_underlying ht, sizeOf, typeInfo, hi, Builtin.lenOf, Builtin.firstCells, loadCells, loadCellsFrom, storeCells]
    refine wpList_plain hgd fun K hK => ?_
    unfold Oper.wp execOp
    simp only [ho, resolve, invoke, builtin, Sem.run_bind, Sem.run_pure, Result.andThen_ok, List.map_toArray, List.map_cons, List.map_nil, hs, hx, hr]
    exact hK _ _ (h g0 0 w hown ⟨rfl, rfl, rfl, Nat.le_refl _, fun _ _ _ => rfl⟩ (.inl rfl))
  | some ad =>
    refine wpList_append_own_at w hgd s x t ho base e i z size bytes ht hi hz hsize hby hzs hsz _ 0 [] hs hown ad m c news hx hl (hnews ad rfl) h1 (by omega) (by rw [Nat.zero_add]; exact hbytes) hbase fun v' w' ho' hg hnil hlies => ?_
    rw [Nat.zero_add, List.nil_append] at ho'
    have ho2 := ho'.2
    rcases ho2 with ⟨h2, _⟩ | ⟨g, cap, cur, rfl, _⟩
    · exact absurd (hnil.1 h2).1 (by simp)
    · refine h g cap w' ho' hg ?_
      rcases hlies with hl | hl
      · exact .inl (by simpa [Value.ownBlock] using hl)
      · exact .inr (by simpa [Value.ownBlock] using hl)

theorem nums_succ (f : Nat → Nat) (k : Nat) : nums f (k + 1) = nums f k ++ [(f k : Int)] := by unfold nums; rw [List.range_succ, List.map_append]; rfl

end Go.Proofs.Ytpdimdpphbobiaa
