/-
  Do with visited's function, and visited.
-/
import Derived.Test.YtpdimdpphbobiaaRingNew
import Derived.Test.YtpdimdpphbobiaaSpec3
import Derived.Deep.RegionLaw
import Derived.Deep.AppendLies
import Derived.BigQuiet
namespace Go.Proofs.Ytpdimdpphbobiaa
open Go.RowKit

theorem Blk.ne_own {w : World} {base : Nat} {e t : TypeId} {size n g : Nat} {v : Value} {xs : List Value} {cs : Array Value} (hg : Blk w g t cs) (h : w.ownsRow base e size v n xs) (hne : e ≠ t) : some g ≠ v.ownBlock := by
  rcases h.2 with ⟨rfl, _⟩ | ⟨g', cap, cur, rfl, _, hh, _⟩
  · simp [Value.ownBlock]
  · intro he
    have e1 : g = g' := by simpa [Value.ownBlock] using he
    subst e1
    unfold Blk at hg
    rw [hg] at hh
    injection hh with hh
    injection hh with _ ht
    exact hne ht.symm

/-- The variable at block cb holds a slice of the call's own, of n numbers xs; nothing below B has turned. -/
def Holds (B cb : Nat) (w : World) (n : Nat) (xs : List Value) (w' : World) : Prop :=
  ∃ u, Blk w' cb 22 #[u] ∧ w'.ownsRow B 2 1 u n xs ∧ Below B w w' ∧ B ≤ cb ∧ B ≤ w'.heap.size

theorem one_done {B cb n g cap : Nat} {w0 w w1 : World} {xs : List Value} {x : Int} {u : Value} {o : Obj} (hb1 : Blk w1 cb 22 #[u]) (hown : w.ownsRow B 2 1 u n xs) (hbel : Below B w0 w) (hBc : B ≤ cb) (hBs : B ≤ w.heap.size)
    (hown1 : w1.ownsRow B 2 1 (.slice (some ⟨g, 0, none⟩) (n + 1) cap) (n + 1) (xs ++ [.int .i64 x])) (hg : (w.alloc o).drew.grownBy w1 u.ownBlock) :
    Holds B cb w0 (n + 1) (xs ++ [.int .i64 x]) (w1.setCell ⟨cb, 0, none⟩ (.slice (some ⟨g, 0, none⟩) (n + 1) cap)) := by
  have hsz := hg.size
  have e1 : (w.alloc o).drew.heap.size = w.heap.size + 1 := by simp
  have hbl : Below B w0 w1 := ((hbel.alloc hBs o).drew).grown hg (by rw [e1]; omega) (fun k hk => (hown.lt k hk).1)
  refine ⟨_, ?_, ownsRow_setCell_other hown1 (fun e => hb1.ne_own hown1 (by decide) e.symm) _, hbl.setCell (p := ⟨cb, 0, none⟩) hBc _, hBc, ?_⟩
  · have := hb1.set_ 0 (.slice (some ⟨g, 0, none⟩) (n + 1) cap)
    simpa using this
  · rw [e1] at hsz
    simp [World.setCell]
    omega

set_option maxHeartbeats 1000000 in
theorem one_any (B cb : Nat) (w0 w : World) (n : Nat) (xs : List Value) (x : Int) (h : Holds B cb w0 n xs w) (hn : n * 8 + 8 ≤ 140737488355328) :
    Calls Try.prog 43 #[.iface 2 (.int .i64 x), .pointer (some ⟨cb, 0, none⟩)] w fun e w' => e = .returned (.tuple #[]) ∧ Holds B cb w0 (n + 1) (xs ++ [.int .i64 x]) w' := by
  obtain ⟨u, hb, hown, hbel, hBc, hBs⟩ := h
  obtain ⟨i0, hi, hz0, hz1, hz2⟩ := info_parts info_int
  have ha := assert_int
  have c0 : w.cell? ⟨cb, 0, none⟩ = some u := hb.cell 0
  obtain ⟨A, n', c, hu⟩ : ∃ A n' c, u = .slice A n' c := by
    rcases hown.2 with ⟨rfl, _⟩ | ⟨g, cap, cur, rfl, _⟩
    · exact ⟨_, _, _, rfl⟩
    · exact ⟨_, _, _, rfl⟩
  subst hu
  have HB := hide hb
  have HOW := hide hown
  have HBL := hide hbel
  clear hb hown hbel
  have hlt := HB.out.lt
  go_enter Try.func43, Try.ntmps43
  go_wp2
  go_region_law ((refine step_append_lies _ (by rfl) (.tmp 3) (.tmp 6) 22 (by rfl) B 2 i0 (.int .i64 0) 1 8 Try.underlying22 hi hz0 hz1 hz2 rfl (by omega) (.slice A n' c) n xs (by rfl) (HOW.out.alloc _).drew ⟨w.heap.size, 0, none⟩ 1 1 [.int .i64 x] (by rfl) rfl (one_new _ _ _) (one_int _) (by omega) (by unfold maxLen; omega) (by omega) (by simp; omega) (w.heap.size + 1) (by simp) ?_
                  intro g cap w1 hown1 hgrow hat hlt1
                  have hb0 : Blk (w.alloc (.cells #[.int .i64 x] 2)).drew cb 22 #[.slice A n' c] := HB.out.alloc _
                  have hb1 : Blk w1 cb 22 #[.slice A n' c] := hb0.grown hgrow (HB.out.ne_own HOW.out (by decide))
                  have c1 : w1.cell? ⟨cb, 0, none⟩ = some (.slice A n' c) := hb1.cell 0
                  have f1 : w1.frozen? ⟨cb, 0, none⟩ = false := hb1.frozen 0))
  all_goals
    go_end0
    exact ⟨rfl, one_done hb1 HOW.out HBL.out hBc hBs hown1 hgrow⟩

set_option maxHeartbeats 1000000 in
theorem do_any (B cb : Nat) (w : World) (N : Nat) (ad f g : Nat → Nat) (i : Nat) (h : RingV w N ad f g numV) (hp : RM.Perm N f g) (hi : i < N) (hlt : ∀ k, k < N → ad k < B) (hN : N * 8 ≤ 140737488351232) (hH : Holds B cb w 0 [] w) :
    Calls Try.prog 42 #[.pointer (some ⟨ad i, 0, none⟩), .func (.func 43) #[] #[.pointer (some ⟨cb, 0, none⟩)]] w fun e w' =>
      e = .returned (.tuple #[]) ∧ Holds B cb w (RM.per f N i) (vals (fun k => RM.it f k i) (RM.per f N i)) w' := by
  have hpe := hp.per hi
  obtain ⟨p, hpp⟩ : ∃ p, RM.per f N i = p := ⟨_, rfl⟩
  rw [hpp] at hpe ⊢
  have p0 := hpe.pos
  have pN := hpe.le
  have HP := hide hpe
  have HQ := hide hp
  have HH := hide hH
  have hring : Hid (∀ w', Below B w w' → RingV w' N ad f g numV) := fun w' hb => ⟨fun k hk => (h.blk k hk).below hb (hlt k hk), h.inj⟩
  have hs := neq_same
  have c2 : w.cell? ⟨ad i, 2, none⟩ = some (.iface 2 (.int .i64 (i : Int))) := h.c2 hi
  clear hpp hpe hp h hH hlt
  go_enter Try.func42, Try.ntmps42
  go_wp2_with fail
  refine (one_any B cb w w 0 [] i HH.out (by omega)).mono ?_
  rintro e w1 ⟨rfl, h1⟩
  have hbel1 : Below B w w1 := h1.choose_spec.2.2.1
  have c0 := (hring.out w1 hbel1).c0 hi
  have H1 := hide h1
  clear h1 hbel1 c2 HH
  go_wp2_with (go_at_call 29; refine (next_set _ _ _ c0).mono ?_; rintro e w' ⟨rfl, rfl⟩)
  go_loopg [4] p (fun gk q wr => ∃ j x : Nat, gk + j = p + 1 ∧ 0 < j ∧ j ≤ p ∧ x < N ∧ Hid (RM.it f j i = x) ∧ q = .pointer (some ⟨ad x, 0, none⟩) ∧ Hid (Holds B cb w j (vals (fun k => RM.it f k i) j) wr))
  case atStart =>
    exact ⟨1, f i, rfl, by omega, by omega, HQ.out.f_lt i hi, rfl, rfl, H1⟩
  case round =>
    obtain ⟨j, x, hgj, hj0, hjle, hx, hjx, rfl, hold⟩ := hrel
    clear c0 H1
    have hbel : Below B w wr := hold.out.choose_spec.2.2.1
    have hr := hring.out wr hbel
    by_cases hj : j = p
    · obtain rfl : i = x := by rw [← hjx.out, hj]; exact HP.out.back.symm
      obtain rfl : p = j := hj.symm
      clear hr hbel
      go_wp2
      go_end0
      exact ⟨rfl, hold.out⟩
    · have hjp : j < p := by omega
      have hne : x ≠ i := fun e => HP.out.first j hj0 hjp (hjx.out.trans e)
      have ho := neq_other (hr.blk x hx) (hr.blk i hi) (fun e => hne (hr.inj _ _ hx hi e))
      have c2 : wr.cell? ⟨ad x, 2, none⟩ = some (.iface 2 (.int .i64 (x : Int))) := hr.c2 hx
      clear hr hbel hne
      go_wp2_with fail
      refine (one_any B cb w _ j _ x hold.out (by omega)).mono ?_
      rintro e w2 ⟨rfl, h2⟩
      have hbel2 : Below B w w2 := h2.choose_spec.2.2.1
      have c0 := (hring.out w2 hbel2).c0 hx
      have H2 : Hid (Holds B cb w (j + 1) (vals (fun k => RM.it f k i) (j + 1)) w2) := by
        rw [vals_succ]
        have := hjx.out
        show Holds B cb w (j + 1) (vals (fun k => RM.it f k i) j ++ [.int .i64 (RM.it f j i : Int)]) w2
        rw [this]
        exact h2
      clear h2 hbel2 c2
      go_wp2
      go_roundg (gk - 1)
      case measure => omega
      case rel => exact ⟨j + 1, f x, by omega, by omega, by omega, HQ.out.f_lt x hx, by show RM.it f (j + 1) i = f x; rw [RM.it_succ, hjx.out], rfl, H2⟩

theorem do_nil (f : Value) (w : World) :
    Calls Try.prog 42 #[.pointer none, f] w fun e w' => e = .returned (.tuple #[]) ∧ w = w' := by
  go_enter Try.func42, Try.ntmps42
  go_wp2
  go_end0
  exact ⟨rfl, rfl⟩

theorem holds_start (w : World) : Holds w.heap.size (w.heap.size + 1) ((w.alloc (.cells #[] 2)).alloc (.cells #[.slice (some ⟨w.heap.size, 0, none⟩) 0 0] 22)) 0 [] ((w.alloc (.cells #[] 2)).alloc (.cells #[.slice (some ⟨w.heap.size, 0, none⟩) 0 0] 22)) := by
  refine ⟨.slice (some ⟨w.heap.size, 0, none⟩) 0 0, ?_, ?_, Below.refl _ _, by omega, by simp; omega⟩
  · have := Blk.new (w.alloc (.cells #[] 2)) 22 #[.slice (some ⟨w.heap.size, 0, none⟩) 0 0]
    simpa using this
  · exact (World.ownsRow_made (base := w.heap.size) (e := 2) (size := 1) w #[] 0 (Nat.le_refl _) (Nat.zero_le _) rfl).alloc _

set_option maxHeartbeats 1000000 in
theorem visited_any (w : World) (N : Nat) (ad f g : Nat → Nat) (i : Nat) (h : RingV w N ad f g numV) (hp : RM.Perm N f g) (hi : i < N) (hN : N * 8 ≤ 140737488351232) :
    Calls Try.prog 33 #[.pointer (some ⟨ad i, 0, none⟩)] w fun e w' => ∃ v', e = .returned v' ∧ Fresh w.heap.size w' v' (nums (fun k => RM.it f k i) (RM.per f N i)) ∧ Below w.heap.size w w' := by
  have HH := hide h
  have HQ := hide hp
  have HS := hide (holds_start w)
  have HB : Hid (Below w.heap.size w ((w.alloc (.cells #[] 2)).alloc (.cells #[.slice (some ⟨w.heap.size, 0, none⟩) 0 0] 22))) := ((Below.refl _ _).alloc (Nat.le_refl _) _).alloc (by simp) _
  clear h hp
  go_enter Try.func33, Try.ntmps33
  go_wp2_with fail
  refine (do_any w.heap.size (w.heap.size + 1) _ N ad f g i ((HH.out.alloc _).alloc _) HQ.out hi (fun k hk => (HH.out.blk k hk).lt) hN HS.out).mono ?_
  rintro e w1 ⟨rfl, u, hb, hown, hbel, _, _⟩
  obtain ⟨A, n', c, rfl⟩ : ∃ A n' c, u = .slice A n' c := by
    rcases hown.2 with ⟨rfl, _⟩ | ⟨g, cap, cur, rfl, _⟩
    · exact ⟨_, _, _, rfl⟩
    · exact ⟨_, _, _, rfl⟩
  have c0 : w1.cell? ⟨w.heap.size + 1, 0, none⟩ = some (.slice A n' c) := hb.cell 0
  have R := hide hown
  clear hown hb
  go_wp2
  go_ret
  exact ⟨_, rfl, fresh_vals R.out, HB.out.trans hbel⟩

set_option maxHeartbeats 1000000 in
theorem visited_nil (w : World) :
    Calls Try.prog 33 #[.pointer none] w fun e w' => ∃ A c, e = .returned (.slice A 0 c) ∧ Below w.heap.size w w' := by
  have HB : Hid (Below w.heap.size w ((w.alloc (.cells #[] 2)).alloc (.cells #[.slice (some ⟨w.heap.size, 0, none⟩) 0 0] 22))) := ((Below.refl _ _).alloc (Nat.le_refl _) _).alloc (by simp) _
  go_enter Try.func33, Try.ntmps33
  go_wp2_with (go_at_call 42; refine (do_nil _ _).mono ?_; rintro e w1 ⟨rfl, rfl⟩)
  go_ret
  exact ⟨_, _, rfl, HB.out⟩

end Go.Proofs.Ytpdimdpphbobiaa
