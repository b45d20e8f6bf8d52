/-
  The lengths and the order of rings behind Link. No walk here.
-/
import Derived.Test.YtpdimdpphbobiaaPre
namespace Go.Proofs.Ytpdimdpphbobiaa

theorem inB_orb {zs : List Int} {a b : Nat} : inB zs a b = true ↔ RM.Orb (nx zs) zs.length a b := inTo_iff _ _ _ _
theorem inB_false {zs : List Int} {a b : Nat} (h : inB zs a b = false) : ¬ RM.Orb (nx zs) zs.length a b := fun h1 => by
  rw [← inB_orb, h] at h1
  cases h1

section
variable {zs : List Int} {a b : Nat}

theorem nx_link_a (hok : RingsOk zs) (ha : a < zs.length) (hb : b < zs.length) : nx (linkI zs a b) a = b := by
  rw [nx_link ha]; exact RM.lkF_a hok.perm ha hb

theorem len_link_ab (hok : RingsOk zs) (ha : a < zs.length) (hb : b < zs.length) : len (linkI zs a b) a = len (linkI zs a b) b := by
  rw [len_link hok ha hb ha, len_link hok ha hb hb]
  have h := (linkI_perm hok ha hb).per_it ha 1
  rw [RM.it_one, RM.lkF_a hok.perm ha hb] at h
  exact h.symm

/-- Two rings become one. -/
theorem len_two (hok : RingsOk zs) (ha : a < zs.length) (hb : b < zs.length) (h : inB zs a b = false) : len (linkI zs a b) b = len zs a + len zs b := by
  rw [len_link hok ha hb hb]
  exact (RM.link_two hok.perm ha hb (inB_false h)).2.2.eq
theorem in_two (hok : RingsOk zs) (ha : a < zs.length) (hb : b < zs.length) (h : inB zs a b = false) : inB (linkI zs a b) a b = true := by
  refine (inTo_iff _ _ _ _).2 ⟨1, ?_, ?_⟩
  · rw [len_link_ab hok ha hb, len_two hok ha hb h]
    have := hok.len_pos ha
    have := hok.len_pos hb
    omega
  · exact nx_link_a hok ha hb
theorem orb_two (hok : RingsOk zs) (ha : a < zs.length) (hb : b < zs.length) (h : inB zs a b = false) {k : Nat} (hk : k < len zs b) : orb (linkI zs a b) a (k + 1) = orb zs b k := by
  rw [orb_link hok ha hb ha, RM.it_succ', RM.lkF_a hok.perm ha hb]
  exact (RM.link_two hok.perm ha hb (inB_false h)).1 k hk

/-- One ring becomes two. -/
theorem one_two {m : Nat} (hok : RingsOk zs) (ha : a < zs.length) (hm : 1 < m) (hmp : m ≤ len zs a) (hb : orb zs a m = b) :
    len (linkI zs a b) a = len zs a - m + 1 ∧ len (linkI zs a b) (nx zs a) = m - 1 ∧ inB (linkI zs a b) a (nx zs a) = false ∧ (∀ k, k < m - 1 → orb (linkI zs a b) (nx zs a) k = orb zs a (k + 1)) := by
  have hbl : b < zs.length := by rw [← hb]; exact orb_lt hok ha m
  have hn := hok.nx_lt ha
  have h1 := RM.link_one hok.perm ha (m := m) (by omega) hmp
  have e : RM.it (nx zs) m a = b := hb
  rw [e] at h1
  obtain ⟨p1, c2, c1, p2⟩ := h1
  have hl1 : len (linkI zs a b) a = len zs a - m + 1 := by rw [len_link hok ha hbl ha]; exact p1.eq
  refine ⟨hl1, by rw [len_link hok ha hbl hn]; exact (p2 hm).eq, ?_, fun k hk => by rw [orb_link hok ha hbl hn]; exact c2 k hk⟩
  cases hin : inB (linkI zs a b) a (nx zs a) with
  | false => rfl
  | true =>
    obtain ⟨k, hk, ek⟩ := (inTo_iff _ _ _ _).1 hin
    rw [hl1] at hk
    rw [orb_link hok ha hbl ha] at ek
    have hper := hok.perm.per ha
    have hlen : len zs a = RM.per (nx zs) zs.length a := rfl
    cases k with
    | zero =>
      have e2 : RM.it (nx zs) 1 a = a := ek.symm
      exact absurd e2 (hper.first 1 (by omega) (by omega))
    | succ k =>
      rw [c1 k (by omega)] at ek
      exact absurd ek.symm (hok.perm.it_ne ha hper (a := 1) (b := m + k) (by omega) (by omega))

theorem place_two (hok : RingsOk zs) (ha : a < zs.length) (h : inB zs a b = true) (hne : nx zs a ≠ b) : ∃ m, 1 < m ∧ m ≤ len zs a ∧ orb zs a m = b := by
  obtain ⟨m, h0, h1, h2, _⟩ := place_of hok ha h
  refine ⟨m, ?_, h1, h2⟩
  rcases Nat.lt_or_ge 1 m with h3 | h3
  · exact h3
  · obtain rfl : m = 1 := by omega
    exact absurd h2 hne

theorem len_split (hok : RingsOk zs) (ha : a < zs.length) (h : inB zs a b = true) (hne : nx zs a ≠ b) :
    len (linkI zs a b) a + len (linkI zs a b) (nx zs a) = len zs a ∧ inB (linkI zs a b) a (nx zs a) = false := by
  obtain ⟨m, h0, h1, h2⟩ := place_two hok ha h hne
  obtain ⟨e1, e2, e3, _⟩ := one_two hok ha h0 h1 h2
  exact ⟨by rw [e1, e2]; omega, e3⟩

theorem len_self (h : nx zs a = a) : len zs a = 1 := by
  refine RM.per_eq (by omega) (by omega) ?_ (fun q h1 h2 => by omega)
  exact h
theorem len_more (hok : RingsOk zs) (ha : a < zs.length) (h : nx zs a ≠ a) : 1 < len zs a := by
  have hper := hok.perm.per ha
  have := hper.pos
  have hlen : len zs a = RM.per (nx zs) zs.length a := rfl
  rcases Nat.lt_or_ge 1 (len zs a) with h1 | h1
  · exact h1
  · have e : RM.per (nx zs) zs.length a = 1 := by omega
    have hb := hper.back
    rw [e] at hb
    exact absurd hb h
end

end Go.Proofs.Ytpdimdpphbobiaa
