/-
  A slice of slices of the call's own; and what stands because it is of another type than what turns.
-/
import Derived.Test.YtpdimdpphbobiaaPlay
import Derived.Test.YtpdimdpphbobiaaImplL
import Derived.Test.YtpdimdpphbobiaaFollow
namespace Go.Proofs.Ytpdimdpphbobiaa
open Go.RowKit

theorem info_row : (Try.prog.info? 22).map (fun i => (i.zero, i.size, i.bytes)) = some (some (.slice none 0 0), 1, 24) := by kernel_rfl

/-- The rows of type e stand. -/
structure Tag (e : TypeId) (w w' : World) : Prop where
  size : w.heap.size ≤ w'.heap.size
  row : ∀ (k : Nat) (cs : Array Value), w.heap[k]? = some (.cells cs e (0, 0)) → w'.heap[k]? = some (.cells cs e (0, 0))

section
variable {e e' : TypeId} {w w' w'' : World}
theorem Tag.refl (e : TypeId) (w : World) : Tag e w w := ⟨Nat.le_refl _, fun _ _ h => h⟩
theorem Tag.trans (h : Tag e w w') (k : Tag e w' w'') : Tag e w w'' := ⟨Nat.le_trans h.size k.size, fun i cs hi => k.row i cs (h.row i cs hi)⟩
theorem heap_lt {k : Nat} {o : Obj} (h : w.heap[k]? = some o) : k < w.heap.size := (Array.getElem?_eq_some_iff.1 h).1
theorem tag_below (hb : Below w.heap.size w w') : Tag e w w' := ⟨hb.size, fun k _ h => (hb.block k (heap_lt h)).trans h⟩
theorem tag_alloc (w : World) (o : Obj) : Tag e w (w.alloc o) := ⟨by simp, fun k _ h => (Below.heap_alloc w o k (heap_lt h)).trans h⟩
theorem tag_drew (w : World) : Tag e w w.drew := ⟨Nat.le_refl _, fun _ _ h => h⟩
theorem tag_set {g i : Nat} {cs : Array Value} (hb : Blk w g e' cs) (hne : e ≠ e') (u : Value) : Tag e w (w.setCell ⟨g, i, none⟩ u) :=
  ⟨by simp [World.setCell], fun k cs' h => (Below.heap_setCell w _ u k (fun ek => by
    have ek' : k = g := ek
    subst ek'
    unfold Blk at hb
    rw [hb] at h
    injection h with h
    injection h with _ h2
    exact hne h2.symm)).trans h⟩
theorem tag_grown {B n : Nat} {u : Value} {xs : List Value} {size : Nat} (hg : w.grownBy w' u.ownBlock) (ho : w.ownsRow B e' size u n xs) (hne : e ≠ e') : Tag e w w' := by
  refine ⟨hg.size, fun k cs h => (hg.block k (heap_lt h) (fun hk => ?_)).trans h⟩
  obtain ⟨_, ho⟩ := ho
  rcases ho with ⟨rfl, _⟩ | ⟨g, cap, cur, rfl, _, hh, _⟩
  · cases hk
  · have : k = g := by simpa [Value.ownBlock] using hk
    subst this
    rw [hh] at h
    injection h with h
    injection h with _ h2
    exact hne h2.symm
theorem own_tag {base size n : Nat} {v : Value} {xs : List Value} (h : w.ownsRow base e size v n xs) (ht : Tag e w w') : w'.ownsRow base e size v n xs := by
  obtain ⟨h1, h2⟩ := h
  refine ⟨h1, ?_⟩
  rcases h2 with h2 | ⟨g, cap, cur, hv, hg, hh, r⟩
  · exact .inl h2
  · exact .inr ⟨g, cap, cur, hv, hg, ht.row _ _ hh, r⟩
theorem Fresh.tag {B : Nat} {v : Value} {xs : List Int} (h : Fresh B w v xs) (ht : Tag 2 w w') : Fresh B w' v xs := own_tag h ht
end

/-- A slice of slices of the call's own: u reads as the lists xss. -/
def Res (B : Nat) (w : World) (u : Value) (xss : List (List Int)) : Prop :=
  ∃ vs : List Value, w.ownsRow B 22 1 u xss.length vs ∧ u ≠ .slice none 0 0 ∧ ∀ (j : Nat) (x : List Int), xss[j]? = some x → ∃ s, vs[j]? = some s ∧ Fresh B w s x

section
variable {B B' : Nat} {w w' : World} {u : Value} {xss : List (List Int)}
theorem Res.tags (h : Res B w u xss) (h1 : Tag 22 w w') (h2 : Tag 2 w w') : Res B w' u xss := by
  obtain ⟨vs, ho, hn, hi⟩ := h
  exact ⟨vs, own_tag ho h1, hn, fun j x hj => by obtain ⟨s, hs, hf⟩ := hi j x hj; exact ⟨s, hs, hf.tag h2⟩⟩
theorem Res.below (h : Res B w u xss) (hb : Below w.heap.size w w') : Res B w' u xss := h.tags (tag_below hb) (tag_below hb)
theorem Res.mono (h : Res B w u xss) (hB : B' ≤ B) : Res B' w u xss := by
  obtain ⟨vs, ho, hn, hi⟩ := h
  exact ⟨vs, own_mono ho hB, hn, fun j x hj => by obtain ⟨s, hs, hf⟩ := hi j x hj; exact ⟨s, hs, hf.mono hB⟩⟩
theorem Res.start (w : World) (hB : B ≤ w.heap.size) : Res B (w.alloc (.cells #[] 22)) (.slice (some ⟨w.heap.size, 0, none⟩) 0 0) [] :=
  ⟨[], World.ownsRow_made w #[] 0 hB (Nat.zero_le _) rfl, by simp, fun j x hj => by simp at hj⟩
/-- One list more. -/
theorem Res.push {vs : List Value} {s v' : Value} {x : List Int} {n : Nat} (hn : xss.length = n) (ho : w.ownsRow B 22 1 u n vs) (hi : ∀ (j : Nat) (x : List Int), xss[j]? = some x → ∃ s, vs[j]? = some s ∧ Fresh B w s x) (hs : Fresh B w s x)
    (ho' : w'.ownsRow B 22 1 v' (n + 1) (vs ++ [s])) (hg : w.grownBy w' u.ownBlock) (hv : v' ≠ .slice none 0 0) : Res B w' v' (xss ++ [x]) := by
  have ht : Tag 2 w w' := tag_grown hg ho (by decide)
  have hl : vs.length = n := by have := ho.1; omega
  refine ⟨vs ++ [s], by rw [List.length_append, hn]; exact ho', hv, fun j y hj => ?_⟩
  rcases Nat.lt_or_ge j n with hlt | hge
  · rw [List.getElem?_append_left (by omega)] at hj
    obtain ⟨s', h1, h2⟩ := hi j y hj
    exact ⟨s', by rw [List.getElem?_append_left (by omega)]; exact h1, h2.tag ht⟩
  · rw [List.getElem?_append_right (by omega)] at hj
    obtain rfl : j = n := by
      rcases Nat.eq_or_lt_of_le hge with h | h
      · exact h.symm
      · rw [List.getElem?_eq_none (by simp; omega)] at hj; cases hj
    rw [hn, Nat.sub_self] at hj
    obtain rfl : x = y := by simpa using hj
    exact ⟨s, by rw [List.getElem?_append_right (by omega), hl, Nat.sub_self]; rfl, hs.tag ht⟩
/-- The lists, read. -/
theorem Res.form (h : Res B w u xss) {n : Nat} (hn : xss.length = n) : ∃ g c, u = .slice (some ⟨g, 0, none⟩) n c ∧ g < w.heap.size ∧ n ≤ c ∧ c ≤ maxLen := by
  obtain ⟨vs, ho, hne, _⟩ := h
  rw [hn] at ho
  obtain ⟨_, ho⟩ := ho
  rcases ho with ⟨h1, _⟩ | ⟨g, cap, cur, rfl, _, hh, h1, h2, _⟩
  · exact absurd h1 hne
  · exact ⟨g, cap, rfl, heap_lt hh, h1, h2⟩
theorem Res.get {g n c : Nat} (h : Res B w (.slice (some ⟨g, 0, none⟩) n c) xss) {j : Nat} {x : List Int} (hj : xss[j]? = some x) : ∃ s, w.cell? ⟨g, j, none⟩ = some s ∧ Fresh B w s x := by
  obtain ⟨vs, ho, _, hi⟩ := h
  obtain ⟨s, hs, hf⟩ := hi j x hj
  refine ⟨s, ?_, hf⟩
  obtain ⟨hl, ho⟩ := ho
  rcases ho with ⟨h1, _⟩ | ⟨g', cap, cur, h1, _, hh, _, _, _, ht⟩
  · cases h1
  · injection h1 with h1 _ _
    injection h1 with h1
    injection h1 with h1
    subst h1
    rw [← ht, List.getElem?_take] at hs
    split at hs
    · rw [cell_of_row w g j cur _ (0, 0) hh, ← Array.getElem?_toList]; exact hs
    · cases hs
end

/-- A value that was made just now: one number. -/
theorem fresh_one {B : Nat} (w : World) (hB : B ≤ w.heap.size) (x : Int) : Fresh B (w.alloc (.cells #[.int .i64 x] 2)) (.slice (some ⟨w.heap.size, 0, none⟩) 1 1) [x] :=
  ⟨rfl, .inr ⟨w.heap.size, 1, #[.int .i64 x], rfl, hB, heap_alloc_new w _, Nat.le_refl _, by decide, rfl, rfl⟩⟩
theorem one_row (v : Value) (h : v.oneCell' = true) : ∀ u ∈ [v], u.oneCell' = true := by intro u hu; simp at hu; subst hu; exact h
theorem Fresh.cell1 {B : Nat} {w : World} {v : Value} {xs : List Int} (h : Fresh B w v xs) : v.oneCell' = true := by
  obtain ⟨_, ho⟩ := h
  rcases ho with ⟨rfl, _⟩ | ⟨g, cap, cur, rfl, _⟩ <;> rfl

/-- Rings stand behind what turns rows of other types. -/
theorem Stand.tags {w0 w w' : World} {L : Nat} {ad : Nat → Nat} {zs : List Int} (h : Stand w0 L ad zs w) (h1 : Tag 54 w w') (h2 : Tag 43 w w') (hb : Below L w0 w') : Stand w0 L ad zs w' := by
  refine ⟨⟨fun i hi => h1.row _ _ (h.ring.blk i hi), h.ring.inj⟩, h.gt, ?_, hb, Nat.le_trans h.size h1.size⟩
  obtain ⟨c, hc, r⟩ := h.row
  exact ⟨c, h2.row _ _ hc, r⟩

theorem tag_link {e : TypeId} {w : World} {N : Nat} {ad f g : Nat → Nat} {V : Nat → Value} (h : RingV w N ad f g V) (hp : RM.Perm N f g) {a b : Nat} (ha : a < N) (hb : b < N) (hne : e ≠ 54) :
    Tag e w (linkW w (ad a) (ad b) (ad (f a)) (ad (g b))) := by
  have b1 := h.blk a ha
  have b2 := h.blk b hb
  have b3 := h.blk (f a) (hp.f_lt a ha)
  have b4 := h.blk (g b) (hp.g_lt b hb)
  unfold linkW
  exact (((tag_set b1 hne _).trans (tag_set (b2.set0 _) hne _)).trans (tag_set ((b3.set0 _).set1 _) hne _)).trans (tag_set (((b4.set0 _).set1 _).set1 _) hne _)

end Go.Proofs.Ytpdimdpphbobiaa
