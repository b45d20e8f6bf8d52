/-
  Scripts: what a list of steps makes of rings. No program here.
-/
import Derived.Test.YtpdimdpphbobiaaLMath
namespace Go.Proofs.Ytpdimdpphbobiaa

/-- One step of a script: the rings behind it, and its result. -/
def stepI (zs : List Int) (k a b : Int) : Option (List Int × List Int) :=
  if 0 ≤ a ∧ a < zs.length then
    if k = 0 then some (zs, [(nx zs a.toNat : Int)])
    else if k = 1 then some (zs, [(pv zs a.toNat : Int)])
    else if k = 2 then some (zs, [(len zs a.toNat : Int)])
    else if k = 3 then (if stepsB b = true then some (zs, [(mv zs a.toNat b : Int)]) else none)
    else if k = 4 then some (zs, cycI zs a.toNat)
    else if k = 5 then (if 0 ≤ b ∧ b < zs.length then some (linkI zs a.toNat b.toNat, [(nx zs a.toNat : Int)]) else none)
    else if k = 6 then (if 1 ≤ b ∧ b ≤ 100000 ∧ b % (len zs a.toNat : Int) ≠ 0 then some (linkI zs a.toNat (mv zs a.toNat (b + 1)), [(nx zs a.toNat : Int)]) else none)
    else none
  else none

section
variable {zs : List Int} {i : Nat} {b k : Int}
theorem stepI_in (hi : i < zs.length) : (0 : Int) ≤ (i : Int) ∧ (i : Int) < zs.length := by omega
theorem stepI_out {a : Int} (h : ¬ (0 ≤ a ∧ a < zs.length)) : stepI zs k a b = none := by unfold stepI; rw [if_neg h]
theorem stepI_0 (hi : i < zs.length) : stepI zs 0 i b = some (zs, [(nx zs i : Int)]) := by
  unfold stepI; rw [if_pos (stepI_in hi), Int.toNat_natCast]; rfl
theorem stepI_1 (hi : i < zs.length) : stepI zs 1 i b = some (zs, [(pv zs i : Int)]) := by
  unfold stepI; rw [if_pos (stepI_in hi), Int.toNat_natCast]; rfl
theorem stepI_2 (hi : i < zs.length) : stepI zs 2 i b = some (zs, [(len zs i : Int)]) := by
  unfold stepI; rw [if_pos (stepI_in hi), Int.toNat_natCast]; rfl
theorem stepI_3 (hi : i < zs.length) : stepI zs 3 i b = if stepsB b = true then some (zs, [(mv zs i b : Int)]) else none := by
  unfold stepI; rw [if_pos (stepI_in hi), Int.toNat_natCast]; rfl
theorem stepI_4 (hi : i < zs.length) : stepI zs 4 i b = some (zs, cycI zs i) := by
  unfold stepI; rw [if_pos (stepI_in hi), Int.toNat_natCast]; rfl
theorem stepI_5 (hi : i < zs.length) : stepI zs 5 i b = if 0 ≤ b ∧ b < zs.length then some (linkI zs i b.toNat, [(nx zs i : Int)]) else none := by
  unfold stepI; rw [if_pos (stepI_in hi), Int.toNat_natCast]; rfl
theorem stepI_6 (hi : i < zs.length) : stepI zs 6 i b = if 1 ≤ b ∧ b ≤ 100000 ∧ b % (len zs i : Int) ≠ 0 then some (linkI zs i (mv zs i (b + 1)), [(nx zs i : Int)]) else none := by
  unfold stepI; rw [if_pos (stepI_in hi), Int.toNat_natCast]; rfl
theorem stepI_7 (h0 : k ≠ 0) (h1 : k ≠ 1) (h2 : k ≠ 2) (h3 : k ≠ 3) (h4 : k ≠ 4) (h5 : k ≠ 5) (h6 : k ≠ 6) {a : Int} : stepI zs k a b = none := by
  unfold stepI
  rw [if_neg h0, if_neg h1, if_neg h2, if_neg h3, if_neg h4, if_neg h5, if_neg h6]
  split <;> rfl
end

/-- The step, by its kind. -/
inductive Stepped (zs : List Int) (i : Nat) (b : Int) : Int → List Int → List Int → Prop
  | next : Stepped zs i b 0 zs [(nx zs i : Int)]
  | prev : Stepped zs i b 1 zs [(pv zs i : Int)]
  | len : Stepped zs i b 2 zs [(len zs i : Int)]
  | move (h : stepsB b = true) : Stepped zs i b 3 zs [(mv zs i b : Int)]
  | do_ : Stepped zs i b 4 zs (cycI zs i)
  | link (j : Nat) (hb : b = j) (hj : j < zs.length) : Stepped zs i b 5 (linkI zs i j) [(nx zs i : Int)]
  | unlink (h1 : 1 ≤ b) (h2 : b ≤ 100000) : Stepped zs i b 6 (linkI zs i (mv zs i (b + 1))) [(nx zs i : Int)]

theorem stepI_some {zs : List Int} {k a b : Int} {z' x : List Int} (h : stepI zs k a b = some (z', x)) : ∃ i : Nat, a = i ∧ i < zs.length ∧ Stepped zs i b k z' x := by
  by_cases ha : 0 ≤ a ∧ a < zs.length
  · obtain ⟨i, rfl⟩ : ∃ i : Nat, a = i := ⟨a.toNat, by omega⟩
    have hi : i < zs.length := by omega
    refine ⟨i, rfl, hi, ?_⟩
    by_cases h0 : k = 0
    · subst h0; rw [stepI_0 hi] at h; cases h; exact .next
    by_cases h1 : k = 1
    · subst h1; rw [stepI_1 hi] at h; cases h; exact .prev
    by_cases h2 : k = 2
    · subst h2; rw [stepI_2 hi] at h; cases h; exact .len
    by_cases h3 : k = 3
    · subst h3; rw [stepI_3 hi] at h
      split at h
      · rename_i hs; cases h; exact .move hs
      · cases h
    by_cases h4 : k = 4
    · subst h4; rw [stepI_4 hi] at h; cases h; exact .do_
    by_cases h5 : k = 5
    · subst h5; rw [stepI_5 hi] at h
      split at h
      · rename_i hs; cases h; exact .link b.toNat (by omega) (by omega)
      · cases h
    by_cases h6 : k = 6
    · subst h6; rw [stepI_6 hi] at h
      split at h
      · rename_i hs; cases h; exact .unlink hs.1 hs.2.1
      · cases h
    rw [stepI_7 h0 h1 h2 h3 h4 h5 h6] at h
    cases h
  · rw [stepI_out ha] at h
    cases h

theorem Stepped.ok {zs : List Int} {i : Nat} {b k : Int} {z' x : List Int} (h : Stepped zs i b k z' x) (hok : RingsOk zs) (hi : i < zs.length) : RingsOk z' ∧ z'.length = zs.length := by
  cases h with
  | link j _ hj => exact ⟨linkI_ok hok hi hj, linkI_len _ _ _⟩
  | unlink => exact ⟨linkI_ok hok hi (mv_lt hok hi _), linkI_len _ _ _⟩
  | _ => exact ⟨hok, rfl⟩

/-- A script: the rings behind n steps, and the steps' results. -/
def playI (ks ls bs zs : List Int) : Nat → Option (List Int × List (List Int))
  | 0 => some (zs, [])
  | n + 1 => (playI ks ls bs zs n).bind fun p => (stepI p.1 (ks.getD n 0) (ls.getD n 0) (bs.getD n 0)).map fun q => (q.1, p.2 ++ [q.2])

section
variable {ks ls bs zs : List Int}
theorem playI_go {n : Nat} {z z' x : List Int} {r : List (List Int)} (h : playI ks ls bs zs n = some (z, r)) (hs : stepI z (ks.getD n 0) (ls.getD n 0) (bs.getD n 0) = some (z', x)) : playI ks ls bs zs (n + 1) = some (z', r ++ [x]) := by
  rw [playI, h]; show (stepI z _ _ _).map _ = _; rw [hs]; rfl
theorem playI_stop {n : Nat} {z : List Int} {r : List (List Int)} (h : playI ks ls bs zs n = some (z, r)) (hs : stepI z (ks.getD n 0) (ls.getD n 0) (bs.getD n 0) = none) : playI ks ls bs zs (n + 1) = none := by
  rw [playI, h]; show (stepI z _ _ _).map _ = _; rw [hs]; rfl
theorem playI_none {n m : Nat} (h : playI ks ls bs zs n = none) (hm : n ≤ m) : playI ks ls bs zs m = none := by
  induction hm with
  | refl => exact h
  | step _ ih => rw [playI, ih]; rfl
theorem playI_stopped {n m : Nat} {z : List Int} {r : List (List Int)} (h : playI ks ls bs zs n = some (z, r)) (hs : stepI z (ks.getD n 0) (ls.getD n 0) (bs.getD n 0) = none) (hm : n < m) : playI ks ls bs zs m = none :=
  playI_none (playI_stop h hs) hm
theorem playI_part {n : Nat} {z' : List Int} {r' : List (List Int)} (h : playI ks ls bs zs (n + 1) = some (z', r')) : ∃ z r x, playI ks ls bs zs n = some (z, r) ∧ stepI z (ks.getD n 0) (ls.getD n 0) (bs.getD n 0) = some (z', x) ∧ r' = r ++ [x] := by
  rw [playI] at h
  obtain ⟨p, h1, h2⟩ := Option.bind_eq_some_iff.1 h
  obtain ⟨q, h3, h4⟩ := Option.map_eq_some_iff.1 h2
  obtain ⟨rfl, rfl⟩ := Prod.mk.inj h4
  exact ⟨p.1, p.2, q.2, h1, h3, rfl⟩
theorem playI_before {n m : Nat} (hm : n ≤ m) {p : List Int × List (List Int)} (h : playI ks ls bs zs m = some p) : ∃ z r, playI ks ls bs zs n = some (z, r) := by
  cases h1 : playI ks ls bs zs n with
  | none => rw [playI_none h1 hm] at h; cases h
  | some q => exact ⟨q.1, q.2, rfl⟩
theorem playI_ok (hok : RingsOk zs) : ∀ {n : Nat} {z : List Int} {r : List (List Int)}, playI ks ls bs zs n = some (z, r) → RingsOk z ∧ z.length = zs.length ∧ r.length = n
  | 0, _, _, h => by cases h; exact ⟨hok, rfl, rfl⟩
  | n + 1, z', r', h => by
    obtain ⟨z, r, x, h1, h2, rfl⟩ := playI_part h
    obtain ⟨o1, o2, o3⟩ := playI_ok hok h1
    obtain ⟨i, _, hi, hs⟩ := stepI_some h2
    obtain ⟨o4, o5⟩ := hs.ok o1 hi
    exact ⟨o4, o5.trans o2, by simp [o3]⟩
end

end Go.Proofs.Ytpdimdpphbobiaa
