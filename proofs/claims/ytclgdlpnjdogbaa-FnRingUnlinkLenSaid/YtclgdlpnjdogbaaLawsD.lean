/-
  RingDo, FnRingDo; RingEmpty, FnRingEmpty.
-/
import Derived.Test.YtclgdlpnjdogbaaBuild
import Derived.Test.YtclgdlpnjdogbaaDo
import Derived.Test.YtclgdlpnjdogbaaSame
namespace Go.Proofs.Ytclgdlpnjdogbaa
open Go.RowKit

set_option maxHeartbeats 400000 in
theorem ringDo_any (v : Value) (zs : List Int) (a : Nat) (w : World) (hv : Ints w v zs) (hN : zs.length * 8 ≤ 140737488351232) (hok : RingsOk zs) (ha : a < zs.length) :
    Calls Try.prog 26 #[v, .int .i64 a] w fun e w' => ∃ v', e = .returned v' ∧ Fresh w.heap.size w' v' (cycI zs a) ∧ Below w.heap.size w w' := by
  have HV := hide hv
  have HO := hide hok
  clear hv hok
  go_enter Try.func26, Try.ntmps26
  go_wp2_with fail
  refine (build_any _ zs _ HV.out hN HO.out).mono ?_
  rintro e w1 ⟨rfl, ad, hr, hgt, hrow, hbel⟩
  have hca := hrow.cell ha
  have HR := hide hr
  clear hr hgt hrow
  go_wp2_with fail
  refine (visited_any _ zs.length ad (nx zs) (pv zs) a HR.out HO.out.perm ha hN).mono ?_
  rintro e w2 ⟨v2, rfl, hf2, hb2⟩
  obtain ⟨A2, c2, rfl⟩ := hf2.form rfl
  go_wp2
  go_ret
  exact ⟨_, rfl, hf2.mono hbel.size, hbel.trans (hb2.mono hbel.size)⟩


theorem len_nil (w : World) :
    Calls Try.prog 33 #[.pointer none] w fun e w' => e = .returned (.int .i64 0) ∧ w = w' := by
  go_enter Try.func33, Try.ntmps33
  go_wp2
  go_ret
  exact ⟨rfl, rfl⟩


end Go.Proofs.Ytclgdlpnjdogbaa
