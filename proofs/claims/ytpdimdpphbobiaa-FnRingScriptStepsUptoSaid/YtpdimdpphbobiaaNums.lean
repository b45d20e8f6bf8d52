/-
  Lists of numbers that tell of rings, and what becomes of them if two elements are linked. No walk here.
-/
import Derived.Test.YtpdimdpphbobiaaMv
namespace Go.Proofs.Ytpdimdpphbobiaa

theorem nums_congr {f f' : Nat → Nat} {N : Nat} (h : ∀ i, i < N → f i = f' i) : nums f N = nums f' N := by
  unfold nums
  apply List.map_congr_left
  intro i hi
  rw [h i (by simpa using hi)]

theorem nx_nums {f : Nat → Nat} {N i : Nat} (hi : i < N) : nx (nums f N) i = f i := by
  unfold nx
  rw [nums_get _ _ _ hi]
  exact Int.toNat_natCast _

theorem nums_ok {f g : Nat → Nat} {N : Nat} (h : RM.Perm N f g) : RingsOk (nums f N) := by
  refine ⟨fun i hi => ?_, fun i hi => ?_, fun i j hi hj e => ?_⟩
  · rw [nums_len] at hi
    rw [nums_get _ _ _ hi]; omega
  · rw [nums_len] at hi ⊢
    rw [nums_get _ _ _ hi]
    have := h.f_lt i hi
    omega
  · rw [nums_len] at hi hj
    rw [nums_get _ _ _ hi, nums_get _ _ _ hj] at e
    exact h.inj hi hj (by omega)

theorem it_congr {f f' : Nat → Nat} {N : Nat} (h : ∀ i, i < N → f i = f' i) (hlt : ∀ i, i < N → f i < N) {i : Nat} (hi : i < N) (k : Nat) : RM.it f' k i = RM.it f k i ∧ RM.it f k i < N := by
  induction k with
  | zero => exact ⟨rfl, hi⟩
  | succ k ih =>
    refine ⟨?_, hlt _ ih.2⟩
    rw [RM.it_succ, RM.it_succ, ih.1, h _ ih.2]

theorem orb_nums {f g : Nat → Nat} {N : Nat} (h : RM.Perm N f g) {a : Nat} (ha : a < N) (k : Nat) : orb (nums f N) a k = RM.it f k a := by
  unfold orb
  exact (it_congr (f := f) (f' := nx (nums f N)) (fun i hi => (nx_nums hi).symm) h.f_lt ha k).1

theorem len_nums {f g : Nat → Nat} {N : Nat} (h : RM.Perm N f g) {a : Nat} (ha : a < N) : len (nums f N) a = RM.per f N a := by
  have hp := h.per ha
  unfold len
  rw [nums_len]
  refine RM.per_eq hp.pos (by have := hp.le; omega) ?_ (fun q h1 h2 => ?_)
  · have := orb_nums h ha (RM.per f N a)
    unfold orb at this
    rw [this]
    exact hp.back
  · have := orb_nums h ha q
    unfold orb at this
    rw [this]
    exact hp.first q h1 h2

theorem pv_nums {f g : Nat → Nat} {N : Nat} (h : RM.Perm N f g) {i : Nat} (hi : i < N) : pv (nums f N) i = g i := by
  have hok := nums_ok h
  have hl : (nums f N).length = N := nums_len _ _
  have h1 : pv (nums f N) i < N := by have := hok.perm.g_lt i (by rw [hl]; exact hi); rw [hl] at this; exact this
  have h2 := hok.perm.fg i (by rw [hl]; exact hi)
  rw [nx_nums h1] at h2
  rw [← h2, h.gf _ h1, h2]

/-- What follows each element behind Link of a with b. -/
def linkI (zs : List Int) (a b : Nat) : List Int := nums (RM.lkF (nx zs) (pv zs) a b) zs.length

section
variable {zs : List Int} {a b : Nat}
theorem linkI_len (zs : List Int) (a b : Nat) : (linkI zs a b).length = zs.length := nums_len _ _
theorem linkI_perm (hok : RingsOk zs) (ha : a < zs.length) (hb : b < zs.length) : RM.Perm zs.length (RM.lkF (nx zs) (pv zs) a b) (RM.lkG (nx zs) (pv zs) a b) := hok.perm.link ha hb
theorem linkI_ok (hok : RingsOk zs) (ha : a < zs.length) (hb : b < zs.length) : RingsOk (linkI zs a b) := nums_ok (linkI_perm hok ha hb)
theorem nx_link {i : Nat} (hi : i < zs.length) : nx (linkI zs a b) i = RM.lkF (nx zs) (pv zs) a b i := nx_nums hi
theorem pv_link (hok : RingsOk zs) (ha : a < zs.length) (hb : b < zs.length) {i : Nat} (hi : i < zs.length) : pv (linkI zs a b) i = RM.lkG (nx zs) (pv zs) a b i := pv_nums (linkI_perm hok ha hb) hi
theorem orb_link (hok : RingsOk zs) (ha : a < zs.length) (hb : b < zs.length) {i : Nat} (hi : i < zs.length) (k : Nat) : orb (linkI zs a b) i k = RM.it (RM.lkF (nx zs) (pv zs) a b) k i := orb_nums (linkI_perm hok ha hb) hi k
theorem len_link (hok : RingsOk zs) (ha : a < zs.length) (hb : b < zs.length) {i : Nat} (hi : i < zs.length) : len (linkI zs a b) i = RM.per (RM.lkF (nx zs) (pv zs) a b) zs.length i := len_nums (linkI_perm hok ha hb) hi

/-- Linked with what follows, the rings are as they were. -/
theorem link_self (hok : RingsOk zs) (ha : a < zs.length) : linkI zs a (nx zs a) = zs := by
  conv => rhs; rw [← zs_nums hok]
  unfold linkI
  exact nums_congr fun i _ => RM.link_next hok.perm ha i

/-- Linked again with what followed before, the rings are as they were. -/
theorem link_back (hok : RingsOk zs) (ha : a < zs.length) (hb : b < zs.length) : linkI (linkI zs a b) a (nx zs a) = zs := by
  conv => rhs; rw [← zs_nums hok]
  have e : linkI (linkI zs a b) a (nx zs a) = nums (RM.lkF (nx (linkI zs a b)) (pv (linkI zs a b)) a (nx zs a)) zs.length := by
    unfold linkI; rw [nums_len]
  rw [e]
  refine nums_congr fun i hi => ?_
  have hn := hok.nx_lt ha
  have := RM.link_twice hok.perm ha hb (x := i)
  rw [← this]
  unfold RM.lkF
  rw [pv_link hok ha hb hn, nx_link ha, nx_link hi]
  rfl
end

/-- The rings in memory, told by another function that agrees. -/
theorem RingV.congr {w : World} {N : Nat} {ad f g f' g' : Nat → Nat} {V : Nat → Value} (h : RingV w N ad f g V) (hf : ∀ i, i < N → f' i = f i) (hg : ∀ i, i < N → g' i = g i) : RingV w N ad f' g' V :=
  ⟨fun i hi => by rw [hf i hi, hg i hi]; exact h.blk i hi, h.inj⟩

end Go.Proofs.Ytpdimdpphbobiaa
