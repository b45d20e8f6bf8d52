/-
  Rings in memory, and the library's functions that go through them: Len, Move.
-/
import Derived.Test.YtpdimdpphbobiaaSmall
namespace Go.Proofs.Ytpdimdpphbobiaa
open Go.RowKit

/-! ### Pointers held against each other -/

theorem ring_info : ((Try.prog.info? 54).map (fun i => i.size)) = some 3 := by kernel_rfl

theorem neq_same (a : Addr) (w : World) : (binOp .neq 43 (.pointer (some a)) (.pointer (some a))).run Try.prog w = .ok (.bool false) w := by
  obtain ⟨j, hj, _⟩ := Option.map_eq_some_iff.1 ring_info
  have h : ∀ d : Nat, (Op.equalIn (d + 1) 43 (.pointer (some a)) (.pointer (some a))).run Try.prog w = .ok true w := fun d => by
    simp [Op.equalIn, run_underlying Try.underlying43, sizeOf, typeInfo, hj, run_sameAddr_same]
  simp only [binOp]
  simp [Op.equal, Op.maxDepth, h 9999]

theorem neq_other {w : World} {g g' : Nat} {t t' : TypeId} {cs cs' : Array Value} (h1 : Blk w g t cs) (h2 : Blk w g' t' cs') (hne : g ≠ g') :
    (binOp .neq 43 (.pointer (some ⟨g, 0, none⟩)) (.pointer (some ⟨g', 0, none⟩))).run Try.prog w = .ok (.bool true) w := by
  obtain ⟨j, hj, hs⟩ := Option.map_eq_some_iff.1 ring_info
  have hsz : j.size ≠ 0 := by omega
  have h : ∀ d : Nat, (Op.equalIn (d + 1) 43 (.pointer (some ⟨g, 0, none⟩)) (.pointer (some ⟨g', 0, none⟩))).run Try.prog w = .ok false w := fun d => by
    simp [Op.equalIn, run_underlying Try.underlying43, sizeOf, typeInfo, hj, hsz, run_sameAddr_other w (a := ⟨g, 0, none⟩) (b := ⟨g', 0, none⟩) (by intro e; injection e; contradiction) h1 h2]
  simp only [binOp]
  simp [Op.equal, Op.maxDepth, h 9999]

theorem eql_same (a : Addr) (w : World) : (binOp .eql 43 (.pointer (some a)) (.pointer (some a))).run Try.prog w = .ok (.bool true) w := by
  obtain ⟨j, hj, _⟩ := Option.map_eq_some_iff.1 ring_info
  exact run_eql_ptr_same w a Try.underlying43 hj

/-! ### Rings in memory -/

/-- Elements 0 .. N - 1 lie in the blocks ad 0 .., f tells what follows each, g what each follows, V its value. -/
structure RingV (w : World) (N : Nat) (ad f g : Nat → Nat) (V : Nat → Value) : Prop where
  blk : ∀ i, i < N → Blk w (ad i) 54 #[.pointer (some ⟨ad (f i), 0, none⟩), .pointer (some ⟨ad (g i), 0, none⟩), V i]
  inj : ∀ i j, i < N → j < N → ad i = ad j → i = j

section
variable {w w' : World} {N : Nat} {ad f g : Nat → Nat} {V : Nat → Value}
theorem RingV.c0 (h : RingV w N ad f g V) {i : Nat} (hi : i < N) : w.cell? ⟨ad i, 0, none⟩ = some (.pointer (some ⟨ad (f i), 0, none⟩)) := (h.blk i hi).cell 0
theorem RingV.c1 (h : RingV w N ad f g V) {i : Nat} (hi : i < N) : w.cell? ⟨ad i, 1, none⟩ = some (.pointer (some ⟨ad (g i), 0, none⟩)) := (h.blk i hi).cell 1
theorem RingV.c2 (h : RingV w N ad f g V) {i : Nat} (hi : i < N) : w.cell? ⟨ad i, 2, none⟩ = some (V i) := (h.blk i hi).cell 2
theorem RingV.below (h : RingV w N ad f g V) (hb : Below w.heap.size w w') : RingV w' N ad f g V := ⟨fun i hi => (h.blk i hi).below hb (h.blk i hi).lt, h.inj⟩
end

/-- Len of an element is the length of its ring. -/
theorem len_ring (w : World) (N : Nat) (ad f g : Nat → Nat) (V : Nat → Value) (i : Nat) (h : RingV w N ad f g V) (hp : RM.Perm N f g) (hi : i < N) (hN : N ≤ 4611686018427387904) :
    Calls Try.prog 31 #[.pointer (some ⟨ad i, 0, none⟩)] w fun e w' => e = .returned (.int .i64 (RM.per f N i)) ∧ w = w' := by
  have hpe := hp.per hi
  obtain ⟨p, hpp⟩ : ∃ p, p = RM.per f N i := ⟨_, rfl⟩
  rw [← hpp] at hpe ⊢
  clear hpp
  have p0 := hpe.pos
  have pN := hpe.le
  have HP := hide hpe
  have HH := hide h
  have HQ := hide hp
  have hs := neq_same
  have hc := h.c0 hi
  clear hpe h hp
  go_enter Try.func31, Try.ntmps31
  go_wp2_with ((go_at_call 29; refine (next_set _ _ _ hc).mono ?_; rintro e w' ⟨rfl, rfl⟩))
  go_loop [3, 4] (fun n q => ∃ j x : Nat, 0 < j ∧ j ≤ p ∧ x < N ∧ Hid (RM.it f j i = x) ∧ n = .int .i64 j ∧ q = .pointer (some ⟨ad x, 0, none⟩)) (fun n _ => p - (intOf n).toNat)
  case atStart => exact ⟨1, f i, by omega, by omega, HQ.out.f_lt i hi, rfl, rfl, rfl⟩
  case round =>
    obtain ⟨j, x, hj0, hjp, hx, hjx, rfl, rfl⟩ := hrel
    by_cases hj : j = p
    · obtain rfl : x = i := by rw [← hjx.out, hj]; exact HP.out.back
      obtain rfl := hj
      go_wp2
      go_ret
      exact ⟨rfl, rfl⟩
    · have hne : x ≠ i := fun e => HP.out.first j hj0 (by omega) (hjx.out.trans e)
      have ho := neq_other (HH.out.blk x hx) (HH.out.blk i hi) (fun e => hne (HH.out.inj _ _ hx hi e))
      have hcx := HH.out.c0 hx
      go_wp2
      go_round
      case rel => exact ⟨j + 1, f x, by omega, by omega, HQ.out.f_lt x hx, by show RM.it f (j + 1) i = f x; rw [RM.it_succ, hjx.out], by go_num, rfl⟩
      case measure => simp [intOf]; omega

/-- Move forward. -/
theorem move_fwd (w : World) (N : Nat) (ad f g : Nat → Nat) (V : Nat → Value) (i k : Nat) (h : RingV w N ad f g V) (hp : RM.Perm N f g) (hi : i < N) (hk : k ≤ 4611686018427387904) :
    Calls Try.prog 32 #[.pointer (some ⟨ad i, 0, none⟩), .int .i64 k] w fun e w' => e = .returned (.pointer (some ⟨ad (RM.it f k i), 0, none⟩)) ∧ w = w' := by
  have HH := hide h
  have HQ := hide hp
  have hc := h.c0 hi
  clear h hp
  rcases Nat.eq_zero_or_pos k with rfl | hk0
  · go_enter Try.func32, Try.ntmps32
    go_wp2
    go_ret
    exact ⟨rfl, rfl⟩
  · go_enter Try.func32, Try.ntmps32
    go_wp2
    go_loop [0, 1] (fun q n => ∃ j x : Nat, j ≤ k ∧ x < N ∧ Hid (RM.it f (k - j) i = x) ∧ n = .int .i64 j ∧ q = .pointer (some ⟨ad x, 0, none⟩)) (fun _ n => (intOf n).toNat)
    case atStart => exact ⟨k, i, by omega, hi, by show RM.it f (k - k) i = i; rw [Nat.sub_self]; rfl, rfl, rfl⟩
    case round =>
      obtain ⟨j, x, hjk, hx, hjx, rfl, rfl⟩ := hrel
      by_cases hj : j = 0
      · obtain rfl : x = RM.it f k i := by rw [← hjx.out, hj]; rfl
        obtain rfl := hj
        clear hc
        go_wp2
        go_ret
        exact ⟨rfl, rfl⟩
      · have hcx := HH.out.c0 hx
        go_wp2
        go_round
        case rel => exact ⟨j - 1, f x, by omega, HQ.out.f_lt x hx, by show RM.it f (k - (j - 1)) i = f x; rw [show k - (j - 1) = k - j + 1 by omega, RM.it_succ, hjx.out], by go_num, rfl⟩
        case measure => simp [intOf]; omega

/-- Move backward. -/
theorem move_back (w : World) (N : Nat) (ad f g : Nat → Nat) (V : Nat → Value) (i k : Nat) (h : RingV w N ad f g V) (hp : RM.Perm N f g) (hi : i < N) (hk0 : 0 < k) (hk : k ≤ 4611686018427387904) :
    Calls Try.prog 32 #[.pointer (some ⟨ad i, 0, none⟩), .int .i64 (-(k : Int))] w fun e w' => e = .returned (.pointer (some ⟨ad (RM.it g k i), 0, none⟩)) ∧ w = w' := by
  have HH := hide h
  have HQ := hide hp
  have hc := h.c0 hi
  clear h hp
  go_enter Try.func32, Try.ntmps32
  go_wp2
  go_loop [0, 1] (fun q n => ∃ j x : Nat, j ≤ k ∧ x < N ∧ Hid (RM.it g (k - j) i = x) ∧ n = .int .i64 (-(j : Int)) ∧ q = .pointer (some ⟨ad x, 0, none⟩)) (fun _ n => (-(intOf n)).toNat)
  case atStart => exact ⟨k, i, by omega, hi, by show RM.it g (k - k) i = i; rw [Nat.sub_self]; rfl, rfl, rfl⟩
  case round =>
    obtain ⟨j, x, hjk, hx, hjx, rfl, rfl⟩ := hrel
    by_cases hj : j = 0
    · obtain rfl : x = RM.it g k i := by rw [← hjx.out, hj]; rfl
      obtain rfl := hj
      clear hc
      go_wp2
      go_ret
      exact ⟨rfl, rfl⟩
    · have hcx := HH.out.c1 hx
      go_wp2
      go_round
      case rel => exact ⟨j - 1, g x, by omega, HQ.out.g_lt x hx, by show RM.it g (k - (j - 1)) i = g x; rw [show k - (j - 1) = k - j + 1 by omega, RM.it_succ, hjx.out], by go_num, rfl⟩
      case measure => simp [intOf]; omega

end Go.Proofs.Ytpdimdpphbobiaa
