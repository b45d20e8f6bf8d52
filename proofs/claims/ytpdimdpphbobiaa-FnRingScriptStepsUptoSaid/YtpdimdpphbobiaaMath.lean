/-
  Plain mathematics of rings: a permutation of the numbers below N, its iterates, its periods, and what becomes of them if two elements are linked. No program in sight.
-/
namespace Go.Proofs.Ytpdimdpphbobiaa.RM

/-- f, k times. -/
def it (f : Nat → Nat) : Nat → Nat → Nat
  | 0, i => i
  | k + 1, i => f (it f k i)

theorem it_zero (f : Nat → Nat) (i : Nat) : it f 0 i = i := rfl
theorem it_succ (f : Nat → Nat) (k i : Nat) : it f (k + 1) i = f (it f k i) := rfl
theorem it_one (f : Nat → Nat) (i : Nat) : it f 1 i = f i := rfl
theorem it_add (f : Nat → Nat) (a b i : Nat) : it f (a + b) i = it f a (it f b i) := by
  induction a with
  | zero => simp [it]
  | succ a ih => rw [Nat.succ_add, it_succ, it_succ, ih]
theorem it_succ' (f : Nat → Nat) (k i : Nat) : it f (k + 1) i = it f k (f i) := by rw [it_add, it_one]

/-- f is a permutation of the numbers below N, and g leads back. -/
structure Perm (N : Nat) (f g : Nat → Nat) : Prop where
  f_lt : ∀ i, i < N → f i < N
  g_lt : ∀ i, i < N → g i < N
  gf : ∀ i, i < N → g (f i) = i
  fg : ∀ i, i < N → f (g i) = i

theorem Perm.symm {N : Nat} {f g : Nat → Nat} (h : Perm N f g) : Perm N g f := ⟨h.g_lt, h.f_lt, h.fg, h.gf⟩
theorem Perm.inj {N : Nat} {f g : Nat → Nat} (h : Perm N f g) {i j : Nat} (hi : i < N) (hj : j < N) (e : f i = f j) : i = j := by
  rw [← h.gf i hi, ← h.gf j hj, e]
theorem Perm.it_lt {N : Nat} {f g : Nat → Nat} (h : Perm N f g) (k : Nat) {i : Nat} (hi : i < N) : it f k i < N := by
  induction k with
  | zero => exact hi
  | succ k ih => exact h.f_lt _ ih
theorem Perm.it_inj {N : Nat} {f g : Nat → Nat} (h : Perm N f g) (k : Nat) {i j : Nat} (hi : i < N) (hj : j < N) (e : it f k i = it f k j) : i = j := by
  induction k with
  | zero => exact e
  | succ k ih => exact ih (h.inj (h.it_lt k hi) (h.it_lt k hj) e)
theorem Perm.g_it {N : Nat} {f g : Nat → Nat} (h : Perm N f g) (k : Nat) {i : Nat} (hi : i < N) : g (it f (k + 1) i) = it f k i := h.gf _ (h.it_lt k hi)

theorem pigeon : ∀ (N : Nat) (s : Nat → Nat), (∀ k, k ≤ N → s k < N) → ∃ a b, a < b ∧ b ≤ N ∧ s a = s b := by
  intro N
  induction N with
  | zero => intro s h; exact absurd (h 0 (Nat.le_refl _)) (by omega)
  | succ N ih =>
    intro s h
    by_cases hv : ∃ a, a ≤ N ∧ s a = s (N + 1)
    · obtain ⟨a, ha, e⟩ := hv
      exact ⟨a, N + 1, by omega, Nat.le_refl _, e⟩
    · have hne : ∀ a, a ≤ N → s a ≠ s (N + 1) := fun a ha e => hv ⟨a, ha, e⟩
      obtain ⟨a, b, hab, hb, e⟩ := ih (fun k => if s (N + 1) < s k then s k - 1 else s k) (fun k hk => by
        have h1 := h k (by omega)
        have h2 := h (N + 1) (Nat.le_refl _)
        have h3 := hne k hk
        show (if s (N + 1) < s k then s k - 1 else s k) < N
        split <;> omega)
      refine ⟨a, b, hab, by omega, ?_⟩
      have h1 := hne a (by omega)
      have h2 := hne b hb
      have e' : (if s (N + 1) < s a then s a - 1 else s a) = (if s (N + 1) < s b then s b - 1 else s b) := e
      split at e' <;> split at e' <;> omega

/-- Injective below N, into the numbers below N: each element comes back. -/
theorem back_of_inj {N : Nat} {f : Nat → Nat} (hlt : ∀ i, i < N → f i < N) (hinj : ∀ i j, i < N → j < N → f i = f j → i = j) (i : Nat) (hi : i < N) :
    ∃ p, 0 < p ∧ p ≤ N ∧ it f p i = i := by
  have itlt : ∀ k, it f k i < N := by
    intro k
    induction k with
    | zero => exact hi
    | succ k ih => exact hlt _ ih
  obtain ⟨a, b, hab, hb, e⟩ := pigeon N (fun k => it f k i) (fun k _ => itlt k)
  have key : ∀ a b, a ≤ b → it f a i = it f b i → it f (b - a) i = i := by
    intro a
    induction a with
    | zero => intro b _ e; exact e.symm
    | succ a ih =>
      intro b hb e
      obtain ⟨c, rfl⟩ : ∃ c, b = c + 1 := ⟨b - 1, by omega⟩
      have := ih c (by omega) (hinj _ _ (itlt a) (itlt c) e)
      rwa [show c + 1 - (a + 1) = c - a by omega]
  exact ⟨b - a, by omega, by omega, key a b (by omega) e⟩

def perFrom (f : Nat → Nat) (i : Nat) : Nat → Nat → Nat
  | 0, k => k
  | n + 1, k => if it f k i = i then k else perFrom f i n (k + 1)

/-- The number of elements of the ring of i. -/
def per (f : Nat → Nat) (N i : Nat) : Nat := perFrom f i N 1

theorem perFrom_spec (f : Nat → Nat) (i : Nat) : ∀ (n k p : Nat), k ≤ p → p ≤ k + n → it f p i = i → (∀ q, k ≤ q → q < p → it f q i ≠ i) → perFrom f i n k = p := by
  intro n
  induction n with
  | zero => intro k p h1 h2 _ _; show k = p; omega
  | succ n ih =>
    intro k p h1 h2 h3 h4
    show (if it f k i = i then k else perFrom f i n (k + 1)) = p
    by_cases e : it f k i = i
    · rw [if_pos e]
      rcases Nat.lt_or_ge k p with h | h
      · exact absurd e (h4 k (Nat.le_refl _) h)
      · omega
    · rw [if_neg e]
      have hk : k ≠ p := fun h => e (h ▸ h3)
      exact ih (k + 1) p (by omega) (by omega) h3 (fun q hq hp => h4 q (by omega) hp)

theorem per_eq {f : Nat → Nat} {N i p : Nat} (h0 : 0 < p) (hN : p ≤ N + 1) (h : it f p i = i) (hl : ∀ q, 0 < q → q < p → it f q i ≠ i) : per f N i = p :=
  perFrom_spec f i N 1 p (by omega) (by omega) h (fun q h1 h2 => hl q (by omega) h2)

theorem least {P : Nat → Prop} : ∀ n, P n → ∃ m, m ≤ n ∧ P m ∧ ∀ k, k < m → ¬ P k := by
  intro n
  induction n using Nat.strongRecOn with
  | ind n ih =>
    intro hn
    by_cases h : ∃ k, k < n ∧ P k
    · obtain ⟨k, hk, hp⟩ := h
      obtain ⟨m, h1, h2, h3⟩ := ih k hk hp
      exact ⟨m, by omega, h2, h3⟩
    · exact ⟨n, Nat.le_refl _, hn, fun k hk hp => h ⟨k, hk, hp⟩⟩

/-- What is known of a ring's length. -/
structure PerOf (f : Nat → Nat) (N i p : Nat) : Prop where
  pos : 0 < p
  le : p ≤ N
  back : it f p i = i
  first : ∀ q, 0 < q → q < p → it f q i ≠ i

theorem perOf_of_inj {N : Nat} {f : Nat → Nat} (hlt : ∀ i, i < N → f i < N) (hinj : ∀ i j, i < N → j < N → f i = f j → i = j) {i : Nat} (hi : i < N) : PerOf f N i (per f N i) := by
  obtain ⟨p, h0, hN, h⟩ := back_of_inj hlt hinj i hi
  obtain ⟨m, h1, ⟨h2, h3⟩, h4⟩ := least (P := fun q => 0 < q ∧ it f q i = i) p ⟨h0, h⟩
  have e := per_eq (N := N) h2 (by omega) h3 (fun q hq hm e => h4 q hm ⟨hq, e⟩)
  rw [e]
  exact ⟨h2, by omega, h3, fun q hq hm e => h4 q hm ⟨hq, e⟩⟩

theorem Perm.per {N : Nat} {f g : Nat → Nat} (h : Perm N f g) {i : Nat} (hi : i < N) : PerOf f N i (per f N i) :=
  perOf_of_inj h.f_lt (fun _ _ a b e => h.inj a b e) hi

theorem PerOf.eq {f : Nat → Nat} {N i p : Nat} (h : PerOf f N i p) : per f N i = p := per_eq h.pos (by have := h.le; omega) h.back h.first

theorem it_mul {f : Nat → Nat} {p i : Nat} (h : it f p i = i) (m : Nat) : it f (p * m) i = i := by
  induction m with
  | zero => rfl
  | succ m ih => rw [Nat.mul_succ, it_add, h, ih]

theorem it_mod {f : Nat → Nat} {p i : Nat} (h : it f p i = i) (k : Nat) : it f (k % p) i = it f k i := by
  conv => rhs; rw [← Nat.mod_add_div k p, it_add, it_mul h]

/-- The inverse, by going on to the end of the ring. -/
def inv (f : Nat → Nat) (N i : Nat) : Nat := it f (per f N i - 1) i

theorem perm_of_inj {N : Nat} {f : Nat → Nat} (hlt : ∀ i, i < N → f i < N) (hinj : ∀ i j, i < N → j < N → f i = f j → i = j) : Perm N f (inv f N) := by
  have itlt : ∀ k i, i < N → it f k i < N := by
    intro k i hi
    induction k with
    | zero => exact hi
    | succ k ih => exact hlt _ ih
  have fg : ∀ i, i < N → f (inv f N i) = i := by
    intro i hi
    have h := perOf_of_inj hlt hinj hi
    have := h.pos
    show it f (RM.per f N i - 1 + 1) i = i
    rw [show RM.per f N i - 1 + 1 = RM.per f N i by omega]
    exact h.back
  exact ⟨hlt, fun i hi => itlt _ i hi, fun i hi => hinj _ _ (itlt _ _ (hlt i hi)) hi (fg _ (hlt i hi)), fg⟩

section
variable {N : Nat} {f g : Nat → Nat}

/-- Along a ring no element stands twice. -/
theorem Perm.it_ne (h : Perm N f g) {i : Nat} (hi : i < N) {p : Nat} (hp : PerOf f N i p) {a b : Nat} (hab : a < b) (hb : b < p) : it f a i ≠ it f b i := by
  intro e
  have e2 : it f a i = it f a (it f (b - a) i) := by rw [← it_add, show a + (b - a) = b by omega]; exact e
  have := h.it_inj a hi (h.it_lt _ hi) e2
  exact hp.first (b - a) (by omega) (by omega) this.symm

theorem Perm.it_inj_idx (h : Perm N f g) {i : Nat} (hi : i < N) {p : Nat} (hp : PerOf f N i p) {a b : Nat} (ha : a < p) (hb : b < p) (e : it f a i = it f b i) : a = b := by
  rcases Nat.lt_trichotomy a b with hl | hl | hl
  · exact absurd e (h.it_ne hi hp hl hb)
  · exact hl
  · exact absurd e.symm (h.it_ne hi hp hl ha)

/-- j is in the ring of i. -/
def Orb (f : Nat → Nat) (N i j : Nat) : Prop := ∃ k, k < per f N i ∧ it f k i = j

theorem Perm.orb_of (h : Perm N f g) {i : Nat} (hi : i < N) (k : Nat) : Orb f N i (it f k i) := by
  have hp := h.per hi
  exact ⟨k % RM.per f N i, Nat.mod_lt _ hp.pos, it_mod hp.back k⟩
theorem Perm.orb_lt (h : Perm N f g) {i j : Nat} (hi : i < N) (ho : Orb f N i j) : j < N := by
  obtain ⟨k, _, rfl⟩ := ho
  exact h.it_lt k hi
theorem Perm.orb_refl (h : Perm N f g) {i : Nat} (hi : i < N) : Orb f N i i := h.orb_of hi 0
theorem Perm.orb_symm (h : Perm N f g) {i j : Nat} (hi : i < N) (ho : Orb f N i j) : Orb f N j i := by
  obtain ⟨k, hk, rfl⟩ := ho
  have hp := h.per hi
  have e : it f (RM.per f N i - k) (it f k i) = i := by rw [← it_add, show RM.per f N i - k + k = RM.per f N i by omega]; exact hp.back
  have := h.orb_of (h.it_lt k hi) (RM.per f N i - k)
  rwa [e] at this
theorem Perm.orb_trans (h : Perm N f g) {i j k : Nat} (hi : i < N) (h1 : Orb f N i j) (h2 : Orb f N j k) : Orb f N i k := by
  obtain ⟨a, _, rfl⟩ := h1
  obtain ⟨b, _, rfl⟩ := h2
  rw [← it_add]
  exact h.orb_of hi _
theorem Perm.orb_f (h : Perm N f g) {i : Nat} (hi : i < N) : Orb f N i (f i) := h.orb_of hi 1
theorem Perm.orb_g (h : Perm N f g) {i : Nat} (hi : i < N) : Orb f N i (g i) := by
  have := h.orb_f (h.g_lt i hi)
  rw [h.fg i hi] at this
  exact h.orb_symm (h.g_lt i hi) this
theorem Perm.g_eq (h : Perm N f g) {i : Nat} (hi : i < N) : g i = it f (RM.per f N i - 1) i := by
  have hp := h.per hi
  have := hp.pos
  have e : it f (RM.per f N i - 1 + 1) i = i := by rw [show RM.per f N i - 1 + 1 = RM.per f N i by omega]; exact hp.back
  rw [it_succ] at e
  conv => lhs; rw [← e]
  exact h.gf _ (h.it_lt _ hi)

/-- Along a ring the length is one. -/
theorem Perm.perOf_it (h : Perm N f g) {i : Nat} (hi : i < N) (k : Nat) : PerOf f N (it f k i) (RM.per f N i) := by
  have hp := h.per hi
  refine ⟨hp.pos, hp.le, ?_, fun q hq hm e => ?_⟩
  · rw [← it_add, Nat.add_comm, it_add, hp.back]
  · rw [← it_add, Nat.add_comm, it_add] at e
    exact hp.first q hq hm (h.it_inj k (h.it_lt q hi) hi e)
theorem Perm.per_it (h : Perm N f g) {i : Nat} (hi : i < N) (k : Nat) : RM.per f N (it f k i) = RM.per f N i := (h.perOf_it hi k).eq
theorem Perm.per_orb (h : Perm N f g) {i j : Nat} (hi : i < N) (ho : Orb f N i j) : RM.per f N j = RM.per f N i := by
  obtain ⟨k, _, rfl⟩ := ho
  exact h.per_it hi k

/-- The elements of the ring of i, in forward order. -/
def cyc (f : Nat → Nat) (N i : Nat) : List Nat := (List.range (per f N i)).map fun k => it f k i

/-- g's iterates go back along f's. -/
theorem Perm.back_it (h : Perm N f g) {i : Nat} (hi : i < N) : ∀ k, it g k (it f k i) = i := by
  intro k
  induction k with
  | zero => rfl
  | succ k ih => rw [it_succ' g, h.g_it k hi, ih]
theorem Perm.it_back (h : Perm N f g) {i : Nat} (hi : i < N) (k : Nat) : it f k (it g k i) = i := h.symm.back_it hi k

end

/-! ### Link -/

/-- What follows each element behind Link of a with b: q is the element that b follows. -/
def lkF (f g : Nat → Nat) (a b x : Nat) : Nat := if x = g b then f a else if x = a then b else f x
/-- What each element follows. -/
def lkG (f g : Nat → Nat) (a b y : Nat) : Nat := if y = f a then g b else if y = b then a else g y

section
variable {N : Nat} {f g : Nat → Nat}

theorem Perm.link (h : Perm N f g) {a b : Nat} (ha : a < N) (hb : b < N) : Perm N (lkF f g a b) (lkG f g a b) := by
  have hq := h.g_lt b hb
  have hn := h.f_lt a ha
  have key : g b = a ↔ b = f a := ⟨fun e => by rw [← e, h.fg b hb], fun e => by rw [e, h.gf a ha]⟩
  refine ⟨fun i hi => ?_, fun i hi => ?_, fun i hi => ?_, fun i hi => ?_⟩
  · unfold lkF; split
    · exact hn
    · split
      · exact hb
      · exact h.f_lt i hi
  · unfold lkG; split
    · exact hq
    · split
      · exact ha
      · exact h.g_lt i hi
  · unfold lkF
    by_cases h1 : i = g b
    · rw [if_pos h1]; unfold lkG; rw [if_pos rfl]; exact h1.symm
    · rw [if_neg h1]
      by_cases h2 : i = a
      · rw [if_pos h2]; unfold lkG
        have hne : b ≠ f a := fun e => h1 (by rw [h2]; exact (key.2 e).symm)
        rw [if_neg hne, if_pos rfl]; exact h2.symm
      · rw [if_neg h2]; unfold lkG
        rw [if_neg (fun e => h2 (h.inj hi ha e)), if_neg (fun e => h1 (by rw [← e, h.gf i hi])), h.gf i hi]
  · unfold lkG
    by_cases h1 : i = f a
    · rw [if_pos h1]; unfold lkF; rw [if_pos rfl]; exact h1.symm
    · rw [if_neg h1]
      by_cases h2 : i = b
      · rw [if_pos h2]; unfold lkF
        have hne : a ≠ g b := fun e => h1 (by rw [h2]; exact key.1 e.symm)
        rw [if_neg hne, if_pos rfl]; exact h2.symm
      · rw [if_neg h2]; unfold lkF
        rw [if_neg (fun e => h2 (h.symm.inj hi hb e)), if_neg (fun e => h1 (by rw [← e, h.fg i hi])), h.fg i hi]

theorem lkF_a {a b : Nat} (h : Perm N f g) (_ha : a < N) (hb : b < N) : lkF f g a b a = b := by
  unfold lkF
  split
  · rename_i e; rw [e, h.fg b hb]
  · rw [if_pos rfl]
theorem lkF_q (a b : Nat) : lkF f g a b (g b) = f a := by unfold lkF; rw [if_pos rfl]
theorem lkF_other {a b x : Nat} (h1 : x ≠ a) (h2 : x ≠ g b) : lkF f g a b x = f x := by unfold lkF; rw [if_neg h2, if_neg h1]

/-- As long as neither a nor q is met, the new rings go as the old ones. -/
theorem it_link {a b x : Nat} : ∀ k, (∀ j, j < k → it f j x ≠ a ∧ it f j x ≠ g b) → it (lkF f g a b) k x = it f k x := by
  intro k
  induction k with
  | zero => intro _; rfl
  | succ k ih =>
    intro hh
    rw [it_succ, it_succ, ih (fun j hj => hh j (by omega))]
    exact lkF_other (hh k (by omega)).1 (hh k (by omega)).2

/-- Nothing changes if b follows a. -/
theorem link_next (h : Perm N f g) {a : Nat} (ha : a < N) (x : Nat) : lkF f g a (f a) x = f x := by
  unfold lkF
  rw [h.gf a ha]
  split
  · rename_i e; rw [e]
  · rfl

/-- Two rings become one. -/
theorem link_two (h : Perm N f g) {a b : Nat} (ha : a < N) (hb : b < N) (hne : ¬ Orb f N a b) :
    (∀ k, k < per f N b → it (lkF f g a b) k b = it f k b) ∧ (∀ k, k < per f N a → it (lkF f g a b) (per f N b + k) b = it f (k + 1) a) ∧
    PerOf (lkF f g a b) N b (per f N a + per f N b) := by
  have hpb := h.per hb
  have hpa := h.per ha
  have b0 := hpb.pos
  have a0 := hpa.pos
  have hnoa : ∀ j, it f j b ≠ a := fun j e => hne (h.orb_symm hb (e ▸ h.orb_of hb j))
  have hnob : ∀ j, it f j a ≠ g b := fun j e => hne (by
    have h1 : Orb f N a (g b) := e ▸ h.orb_of ha j
    have h2 := h.orb_f (h.g_lt b hb)
    rw [h.fg b hb] at h2
    exact h.orb_trans ha h1 h2)
  have hq := h.g_eq hb
  have c1 : ∀ k, k < per f N b → it (lkF f g a b) k b = it f k b := fun k hk => it_link k (fun j hj => ⟨hnoa j, by
    rw [hq]
    exact h.it_ne hb hpb (by omega) (by omega)⟩)
  have c2 : it (lkF f g a b) (per f N b) b = f a := by
    have e : per f N b = per f N b - 1 + 1 := by omega
    rw [e, it_succ, c1 _ (by omega), ← hq]
    exact lkF_q a b
  have c3 : ∀ k, k < per f N a → it (lkF f g a b) (per f N b + k) b = it f (k + 1) a := by
    intro k hk
    rw [Nat.add_comm, it_add, c2, it_succ']
    refine it_link k (fun j hj => ⟨?_, ?_⟩)
    · rw [← it_succ']
      exact fun e => hpa.first (j + 1) (by omega) (by omega) e
    · rw [← it_succ']
      exact hnob _
  have c4 : it (lkF f g a b) (per f N a + per f N b) b = b := by
    have e : per f N a + per f N b = per f N b + (per f N a - 1) + 1 := by omega
    rw [e, it_succ, c3 _ (by omega), show per f N a - 1 + 1 = per f N a by omega, hpa.back]
    exact lkF_a h ha hb
  have c5 : ∀ q, 0 < q → q < per f N a + per f N b → it (lkF f g a b) q b ≠ b := by
    intro q hq0 hql
    rcases Nat.lt_or_ge q (per f N b) with hl | hl
    · rw [c1 q hl]
      exact hpb.first q hq0 hl
    · obtain ⟨k, rfl⟩ : ∃ k, q = per f N b + k := ⟨q - per f N b, by omega⟩
      rw [c3 k (by omega)]
      intro e
      exact hne (e ▸ h.orb_of ha (k + 1))
  refine ⟨c1, c3, by omega, ?_, c4, c5⟩
  -- the length is at most N: the elements are different numbers below N
  obtain hp' := (h.link ha hb).per hb
  rcases Nat.lt_or_ge (per (lkF f g a b) N b) (per f N a + per f N b) with hl | hl
  · exact absurd hp'.back (c5 _ hp'.pos hl)
  · have := hp'.le
    omega

/-- One ring becomes two: b is m elements behind a. -/
theorem link_one (h : Perm N f g) {a m : Nat} (ha : a < N) (hm0 : 0 < m) (hm : m ≤ per f N a) :
    PerOf (lkF f g a (it f m a)) N a (per f N a - m + 1) ∧
    (∀ k, k < m - 1 → it (lkF f g a (it f m a)) k (f a) = it f (k + 1) a) ∧
    (∀ k, k ≤ per f N a - m → it (lkF f g a (it f m a)) (k + 1) a = it f (m + k) a) ∧
    (1 < m → PerOf (lkF f g a (it f m a)) N (f a) (m - 1)) := by
  have hp := h.per ha
  have p0 := hp.pos
  have hb : it f m a < N := h.it_lt m ha
  have hq : g (it f m a) = it f (m - 1) a := by
    have e : m = m - 1 + 1 := by omega
    rw [e]
    exact h.g_it _ ha
  have hP := h.link ha hb
  have ea : lkF f g a (it f m a) a = it f m a := lkF_a h ha hb
  have c1 : ∀ k, k ≤ per f N a - m → it (lkF f g a (it f m a)) (k + 1) a = it f (m + k) a := by
    intro k hk
    rw [it_succ', ea, Nat.add_comm m k, it_add f k m]
    refine it_link k (fun j hj => ?_)
    rw [← it_add f j m, hq]
    refine ⟨?_, ?_⟩
    · have := hp.first (j + m) (by omega) (by omega)
      exact this
    · exact (h.it_ne ha hp (a := m - 1) (b := j + m) (by omega) (by omega)).symm
  have c2 : ∀ k, k < m - 1 → it (lkF f g a (it f m a)) k (f a) = it f (k + 1) a := by
    intro k hk
    rw [it_succ' f k a]
    refine it_link k (fun j hj => ?_)
    rw [← it_succ' f j a, hq]
    exact ⟨hp.first (j + 1) (by omega) (by omega), h.it_ne ha hp (by omega) (by omega)⟩
  refine ⟨⟨by omega, ?_, ?_, ?_⟩, c2, c1, fun h1 => ⟨by omega, ?_, ?_, ?_⟩⟩
  · have := hp.le; omega
  · rw [c1 (per f N a - m) (Nat.le_refl _), show m + (per f N a - m) = per f N a by omega]
    exact hp.back
  · intro q hq0 hql
    obtain ⟨k, rfl⟩ : ∃ k, q = k + 1 := ⟨q - 1, by omega⟩
    rw [c1 k (by omega)]
    exact hp.first (m + k) (by omega) (by omega)
  · have := hp.le; omega
  · have e : m - 1 = m - 2 + 1 := by omega
    rw [e, it_succ, c2 (m - 2) (by omega), show m - 2 + 1 = m - 1 by omega, ← hq]
    exact lkF_q a _
  · intro q hq0 hql
    rw [c2 q (by omega)]
    intro e
    have e' : it f q a = it f 0 a := h.inj (h.it_lt q ha) ha e
    exact h.it_ne ha hp (a := 0) (b := q) (by omega) (by omega) e'.symm

/-- Linked twice, the rings are as they were. -/
theorem link_twice (h : Perm N f g) {a b : Nat} (ha : a < N) (hb : b < N) {x : Nat} : lkF (lkF f g a b) (lkG f g a b) a (f a) x = f x := by
  have hG : lkG f g a b (f a) = g b := by unfold lkG; rw [if_pos rfl]
  have hA := lkF_a h ha hb
  show (if x = lkG f g a b (f a) then lkF f g a b a else if x = a then f a else lkF f g a b x) = f x
  rw [hG, hA]
  split
  · rename_i e; rw [e, h.fg b hb]
  · rename_i h1
    split
    · rename_i e; rw [e]
    · rename_i h2
      exact lkF_other h2 h1

end

end Go.Proofs.Ytpdimdpphbobiaa.RM
