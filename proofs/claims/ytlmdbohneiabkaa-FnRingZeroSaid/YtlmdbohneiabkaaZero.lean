/-
  The zero value of a ring: Len, Next of it; RingZero.
-/
import Derived.Test.YtlmdbohneiabkaaRing
import Derived.Deep.RegionWith
namespace Go.Proofs.Ytlmdbohneiabkaa
open Go.RowKit

/-- A ring of one element at block g, be it initialized or not. -/
def Lone (w : World) (g : Nat) (z : Value) : Prop :=
  Blk w g 39 #[.pointer none, .pointer none, z] ∨ Blk w g 39 #[.pointer (some ⟨g, 0, none⟩), .pointer (some ⟨g, 0, none⟩), z]

theorem Lone.c2 {w : World} {g : Nat} {z : Value} (h : Lone w g z) : w.cell? ⟨g, 2, none⟩ = some z := by
  rcases h with h | h
  · exact h.cell 2
  · exact h.cell 2

theorem next_lone (g : Nat) (z : Value) (w : World) (h : Lone w g z) :
    Calls Try.prog 31 #[.pointer (some ⟨g, 0, none⟩)] w fun e w' => e = .returned (.pointer (some ⟨g, 0, none⟩)) ∧ Blk w' g 39 #[.pointer (some ⟨g, 0, none⟩), .pointer (some ⟨g, 0, none⟩), z] ∧ Kept (· = g) w w' := by
  rcases h with h | h
  · have hc := h.cell 0
    have HH := hide h
    clear h
    simp at hc
    go_enter Try.func31, Try.ntmps31
    go_wp2_with ((go_at_call 40; refine (init_any _ _ _ _ _ HH.out).mono ?_; rintro e w' ⟨rfl, rfl⟩))
    go_ret
    refine ⟨rfl, ?_, ((Kept.refl (· = g) w).setCell (.inl rfl) _).setCell (.inl rfl) _⟩
    have := (HH.out.set_ 0 (ptr g)).set_ 1 (ptr g)
    simpa using this
  · refine (next_set g g w (h.cell 0)).mono ?_
    rintro e w' ⟨rfl, rfl⟩
    exact ⟨rfl, h, Kept.refl _ _⟩

theorem len_lone (g : Nat) (z : Value) (w : World) (h : Lone w g z) :
    Calls Try.prog 30 #[.pointer (some ⟨g, 0, none⟩)] w fun e w' => e = .returned (.int .i64 1) ∧ Blk w' g 39 #[.pointer (some ⟨g, 0, none⟩), .pointer (some ⟨g, 0, none⟩), z] ∧ Kept (· = g) w w' := by
  have HH := hide h
  clear h
  have hs := neq_same
  go_enter Try.func30, Try.ntmps30
  go_wp2_with ((go_at_call 31; refine (next_lone _ _ _ HH.out).mono ?_; rintro e w' ⟨rfl, hb, hk⟩))
  refine wp_loop_rounds 1 ?_
  rw [rounds_succ]
  go_wp2
  go_ret
  exact ⟨rfl, hb, hk⟩

/-- The ring of one element stands, and nothing below B has turned. -/
def Inv (B : Nat) (w0 : World) (g : Nat) (w : World) : Prop := Lone w g .nilIface ∧ Below B w0 w ∧ B ≤ g ∧ B ≤ w.heap.size

theorem inv_step {B : Nat} {w0 w w' : World} {g : Nat} (h : Inv B w0 g w) (hb : Blk w' g 39 #[.pointer (some ⟨g, 0, none⟩), .pointer (some ⟨g, 0, none⟩), .nilIface]) (hk : Kept (· = g) w w') : Inv B w0 g w' :=
  ⟨.inr hb, h.2.1.trans (hk.below h.2.2.2 (fun k hk e => by have := h.2.2.1; omega)), h.2.2.1, Nat.le_trans h.2.2.2 hk.size⟩

theorem Inv.drew {B : Nat} {w0 w : World} {g : Nat} (h : Inv B w0 g w) : Inv B w0 g w.drew := ⟨h.1, h.2.1.drew, h.2.2⟩

theorem len_inv (B : Nat) (w0 : World) (g : Nat) (w : World) (h : Inv B w0 g w) :
    Calls Try.prog 30 #[.pointer (some ⟨g, 0, none⟩)] w fun e w' => e = .returned (.int .i64 1) ∧ Inv B w0 g w' ∧ w'.cell? ⟨g, 2, none⟩ = some .nilIface :=
  (len_lone g _ w h.1).mono fun _ _ ⟨he, hb, hk⟩ => ⟨he, inv_step h hb hk, hb.cell 2⟩

theorem next_inv (B : Nat) (w0 : World) (g : Nat) (w : World) (h : Inv B w0 g w) :
    Calls Try.prog 31 #[.pointer (some ⟨g, 0, none⟩)] w fun e w' => e = .returned (.pointer (some ⟨g, 0, none⟩)) ∧ Inv B w0 g w' ∧ w'.cell? ⟨g, 2, none⟩ = some .nilIface :=
  (next_lone g _ w h.1).mono fun _ _ ⟨he, hb, hk⟩ => ⟨he, inv_step h hb hk, hb.cell 2⟩

theorem ringZero_any (w : World) :
    Calls Try.prog 16 #[] w fun e w' => e = .returned (.tuple #[.int .i64 1, .bool true, .bool true]) ∧ Below w.heap.size w w' := by
  have he := eql_same
  go_enter Try.func16, Try.ntmps16
  go_wp2
  have hi : Inv w.heap.size w w.heap.size (w.alloc (.cells #[.pointer none, .pointer none, .nilIface] 39)) :=
    ⟨.inl (Blk.new _ _ _), (Below.refl _ _).alloc (Nat.le_refl _) _, Nat.le_refl _, by simp⟩
  generalize w.alloc (.cells #[.pointer none, .pointer none, .nilIface] 39) = w1 at *
  have hi1 := hi.drew
  have hc := hi.1.c2
  go_region_with (first
    | (go_at_call 30; refine (len_inv w.heap.size w _ _ ?_).mono ?_; assumption; rintro e w2 ⟨rfl, hi2, hc2⟩)
    | (go_at_call 31; refine (next_inv w.heap.size w _ _ ?_).mono ?_; assumption; rintro e w2 ⟨rfl, hi2, hc2⟩))
  all_goals
    go_wp2
    go_ret3
    exact ⟨rfl, hi2.2.1⟩

theorem specZero_any (w : World) :
    Calls Try.prog 15 #[] w fun e w' => e = .returned (.tuple #[.int .i64 1, .bool true, .bool true]) ∧ w = w' := by
  go_enter Try.func15, Try.ntmps15
  go_wp2
  go_ret3
  exact ⟨rfl, rfl⟩

theorem fnExactRingZero_any (w : World) :
    Calls Try.prog 3 #[] w fun e w' => e = .returned (.bool true) ∧ Below w.heap.size w w' := by
  go_enter Try.func3, Try.ntmps3
  go_wp2_with (first
    | (go_at_call 15; refine (specZero_any _).mono ?_; rintro e w' ⟨rfl, rfl⟩)
    | (go_at_call 16; refine (ringZero_any _).mono ?_; rintro e w' ⟨rfl, hb⟩))
  go_ret
  exact ⟨rfl, hb⟩

theorem fnRingZero_any (w : World) :
    Calls Try.prog 4 #[] w fun e w' => e = .returned (.bool true) ∧ Below w.heap.size w w' := by
  go_enter Try.func4, Try.ntmps4
  go_wp2_with (go_at_call 16; refine (ringZero_any _).mono ?_; rintro e w' ⟨rfl, hb⟩)
  go_ret
  exact ⟨rfl, hb⟩

end Go.Proofs.Ytlmdbohneiabkaa
