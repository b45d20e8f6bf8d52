/-
  follow, and what append makes of a slice of the call's own.
-/
import Derived.Test.YtpdimdpphbobiaaRing
namespace Go.Proofs.Ytpdimdpphbobiaa
open Go.RowKit

theorem info_int : (Try.prog.info? 2).map (fun i => (i.zero, i.size, i.bytes)) = some (some (.int .i64 0), 1, 8) := by kernel_rfl
theorem info_ptr : (Try.prog.info? 43).map (fun i => (i.zero, i.size, i.bytes)) = some (some (.pointer none), 1, 8) := by kernel_rfl

/-- The value of an element that bears its number. -/
def numV (i : Nat) : Value := .iface 2 (.int .i64 (i : Int))

/-- The numbers f 0, .., f (k - 1), as values of cells. -/
def vals (f : Nat → Nat) (k : Nat) : List Value := (List.range k).map fun i => .int .i64 (f i : Int)
theorem vals_succ (f : Nat → Nat) (k : Nat) : vals f (k + 1) = vals f k ++ [.int .i64 (f k : Int)] := by
  unfold vals; rw [List.range_succ, List.map_append]; rfl
theorem vals_len (f : Nat → Nat) (k : Nat) : (vals f k).length = k := by unfold vals; simp
/-- .. and as numbers. -/
def nums (f : Nat → Nat) (k : Nat) : List Int := (List.range k).map fun i => (f i : Int)
theorem nums_len (f : Nat → Nat) (k : Nat) : (nums f k).length = k := by unfold nums; simp
theorem nums_get (f : Nat → Nat) (k i : Nat) (h : i < k) : (nums f k).getD i 0 = (f i : Int) := by unfold nums; simp [List.getD, h]
theorem nums_map (f : Nat → Nat) (k : Nat) : (nums f k).map (Value.int .i64) = vals f k := by unfold nums vals; simp [List.map_map, Function.comp_def]

theorem fresh_vals {B : Nat} {w : World} {v : Value} {f : Nat → Nat} {k : Nat} (h : w.ownsRow B 2 1 v k (vals f k)) : Fresh B w v (nums f k) := by
  unfold Fresh; rw [nums_len, nums_map]; exact h

theorem one_new (w : World) (x : Value) (t : TypeId) : ∀ j u, [x][j]? = some u → (w.alloc (.cells #[x] t)).cell? ((⟨w.heap.size, 0, none⟩ : Addr).add j) = some u := by
  intro j u hj
  match j, hj with
  | 0, hj => simp at hj; subst hj; simp [Addr.add]
theorem one_int (n : Int) : ∀ u ∈ [Value.int .i64 n], u.oneCell' = true := by intro u hu; simp at hu; subst hu; rfl
theorem one_ptr (a : Option Addr) : ∀ u ∈ [Value.pointer a], u.oneCell' = true := by intro u hu; simp at hu; subst hu; rfl

/-- An append behind a block that was laid for the element: the row grows, nothing below B has turned. -/
theorem own_next {B : Nat} {w wr w1 : World} {e : TypeId} {v v' : Value} {n : Nat} {xs ys : List Value} {o : Obj} (hown : wr.ownsRow B e 1 v n xs) (hbel : Below B w wr) (hB : B ≤ w.heap.size)
    (hown' : w1.ownsRow B e 1 v' (n + 1) (xs ++ ys)) (hg : (wr.alloc o).grownBy w1 v.ownBlock) : w1.ownsRow B e 1 v' (n + 1) (xs ++ ys) ∧ Below B w w1 := by
  have := hbel.size
  exact ⟨hown', (hbel.alloc (by omega) o).grown hg (by simp; omega) (fun k hk => (hown.lt k hk).1)⟩

set_option maxHeartbeats 400000 in
theorem follow_any (w : World) (N : Nat) (ad f g : Nat → Nat) (v : Value) (h : RingV w N ad f g numV) (hp : RM.Perm N f g) (hv : Cells w v N (fun i => .pointer (some ⟨ad i, 0, none⟩))) (hN : N * 8 ≤ 140737488351232) :
    Calls Try.prog 37 #[v] w fun e w' => ∃ v', e = .returned v' ∧ Fresh w.heap.size w' v' (nums f N) ∧ Below w.heap.size w w' := by
  obtain ⟨i0, hi, hz0, hz1, hz2⟩ := info_parts info_int
  obtain ⟨A, c, rfl, hnc, hcm, hc⟩ := hv
  have HC := hide hc
  have HH := hide h
  have HP := hide hp
  clear hc h hp hnc hcm
  go_enter Try.func37, Try.ntmps37
  go_wp2
  go_loopw [3, 9] (fun u i wr => ∃ k : Nat, k ≤ N ∧ i = .int .i64 k ∧ wr.ownsRow w.heap.size 2 1 u k (vals f k) ∧ Below w.heap.size w wr) (fun _ i _ => N - (intOf i).toNat)
  case atStart => exact ⟨0, Nat.zero_le _, rfl, World.ownsRow_made w #[] 0 (Nat.le_refl _) (Nat.zero_le _) rfl, (Below.refl _ _).alloc (Nat.le_refl _) _⟩
  case round =>
    obtain ⟨k, hk, rfl, hown, hbel⟩ := hrel
    by_cases hlt : k < N
    · obtain ⟨b, off, rfl, hb, hcell⟩ := HC.out (by omega)
      have hck : wr.cell? ⟨b, off + k, none⟩ = some (.pointer (some ⟨ad k, 0, none⟩)) := (hbel.cell (p := ⟨b, off + k, none⟩) hb).trans (hcell k hlt)
      have hr := HH.out.below hbel
      have hfk := HP.out.f_lt k hlt
      have c0 := hr.c0 hlt
      have c2 : wr.cell? ⟨ad (f k), 2, none⟩ = some (.iface 2 (.int .i64 (f k : Int))) := hr.c2 hfk
      have hsz := hbel.size
      clear hcell hr
      go_wp2_with (first
        | (go_at_call 29; refine (next_set _ _ _ c0).mono ?_; rintro e w' ⟨rfl, rfl⟩)
        | (go_at_call 28; refine (number_set _ _ _ c2).mono ?_; rintro e w' ⟨rfl, rfl⟩)
        | (at_builtin; refine wpList_append_own _ rfl _ _ 22 rfl w.heap.size 2 i0 (.int .i64 0) 1 8 Try.underlying22 hi hz0 hz1 hz2 rfl (by decide) _ _ _ rfl (hown.alloc _) ⟨wr.heap.size, 0, none⟩ 1 1 [.int .i64 (f k : Int)] rfl rfl (one_new _ _ _) (one_int _) ?c3 ?c4 ?c5 ?_))
      case c3 => unfold maxLen; omega
      case c4 => omega
      case c5 => simp; omega
      intro v' w1 hown' hgrow _
      have R := hide (own_next hown hbel (Nat.le_refl _) hown' hgrow)
      clear hown' hgrow hown hbel hck c0 c2
      go_wp2
      go_roundw
      case rel => exact ⟨k + 1, by omega, by go_num, by rw [vals_succ]; exact R.out.1, R.out.2⟩
      case measure => simp [intOf]; omega
    · obtain rfl : k = N := by omega
      go_wp2
      go_ret
      exact ⟨_, rfl, fresh_vals hown, hbel⟩

end Go.Proofs.Ytpdimdpphbobiaa
