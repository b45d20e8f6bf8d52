/-
  FnRingScriptSteps. Printed by stepsgen.py.
-/
import Derived.Test.YtpdimdpphbobiaaLC4
namespace Go.Proofs.Ytpdimdpphbobiaa
open Go.RowKit

section
variable {ks ls bs zs z1 : List Int} {r1 : List (List Int)} {h : Nat}
theorem playI_take (hla : ls.length = ks.length) (hlb : bs.length = ks.length) (hh : h ≤ ks.length) : playI (ks.take h) (ls.take h) (bs.take h) zs h = playI ks ls bs zs h := by
  have e := playI_app (ks := ks.take h) (ls := ls.take h) (bs := bs.take h) (ks2 := ks.drop h) (ls2 := ls.drop h) (bs2 := bs.drop h) (zs := zs) (by rw [List.length_take, List.length_take, hla]) (by rw [List.length_take, List.length_take, hlb]) h (by rw [List.length_take]; omega)
  rw [List.take_append_drop, List.take_append_drop, List.take_append_drop] at e
  exact e.symm
theorem getD_drop {xs : List Int} {m : Nat} : (xs.drop h).getD m 0 = xs.getD (h + m) 0 := by simp [List.getD, List.getElem?_drop]
theorem playI_drop (h1 : playI ks ls bs zs h = some (z1, r1)) : ∀ (m : Nat) {z : List Int} {r : List (List Int)}, playI ks ls bs zs (h + m) = some (z, r) → ∃ r2, playI (ks.drop h) (ls.drop h) (bs.drop h) z1 m = some (z, r2) ∧ r = r1 ++ r2
  | 0, z, r, he => by
    rw [Nat.add_zero, h1] at he
    injection he with he
    injection he with e1 e2
    exact ⟨[], by rw [e1]; rfl, by rw [List.append_nil, e2]⟩
  | m + 1, z, r, he => by
    obtain ⟨z', r', x, p1, p2, rfl⟩ := playI_part (n := h + m) he
    obtain ⟨r2, q1, rfl⟩ := playI_drop h1 m p1
    exact ⟨r2 ++ [x], playI_go q1 (by rw [getD_drop, getD_drop, getD_drop]; exact p2), by rw [List.append_assoc]⟩
end

theorem take_act {P : Program} {md : Region.Mode} {ops : Array Oper} {Q : Exit → Act → World → Prop} {i : Nat} {oi : Oper} {v : Value} {fuel : Nat} {listed : Array Bool} {a a' : Act} {w : World} (hi : ops[i]? = some oi)
    (hs : Region.noSelect ops = true) (hf : Region.free md ops listed i = true) (hr : (Region.ready md ops listed).contains i = true)
    (hQ : ∀ c a w, Q (.panic c) (a.put oi.dst v) w → Q (.panic c) a w) (hy : Yields P ops oi v a) (ha : a.put oi.dst v = a')
    (h : wpAny P md ops Q fuel (listed.setIfInBounds i true) a' w) : wpAny P md ops Q (fuel + 1) listed a w := wpAny_take hi hs hf hr hQ hy (ha ▸ h)

theorem ints_take {w : World} {A : Option Addr} {n c m : Nat} {xs : List Int} (h : Ints w (.slice A n c) xs) (hm : m ≤ n) : Ints w (.slice A m c) (xs.take m) := by
  obtain ⟨hl, hn, hc, hcell⟩ := h.open_
  have e : (xs.take m).length = m := by rw [List.length_take]; omega
  refine ⟨A, c, by rw [e], by omega, hc, fun h0 => ?_⟩
  rw [e] at h0
  obtain ⟨b, off, hA, hb, hcell⟩ := hcell (by omega)
  refine ⟨b, off, hA, hb, fun i hi => ?_⟩
  rw [e] at hi
  rw [hcell i (by omega)]
  simp [List.getD, hi]

theorem ints_drop {w : World} {A A' : Option Addr} {n c m : Nat} {xs : List Int} (h : Ints w (.slice A n c) xs) (hm : m ≤ n) (hA' : m < n → A' = A.map (·.add m)) : Ints w (.slice A' (n - m) (c - m)) (xs.drop m) := by
  obtain ⟨hl, hn, hc, hcell⟩ := h.open_
  have e : (xs.drop m).length = n - m := by rw [List.length_drop]; omega
  refine ⟨A', c - m, by rw [e], by omega, by omega, fun h0 => ?_⟩
  rw [e] at h0
  obtain ⟨b, off, hA, hb, hcell⟩ := hcell (by omega)
  refine ⟨b, off + m, ?_, hb, fun i hi => ?_⟩
  · rw [hA' (by omega), hA]
    show some ((⟨b, off, none⟩ : Addr).add m) = _
    rw [show (⟨b, off, none⟩ : Addr).add m = ⟨b, off + m, none⟩ by unfold Addr.add; split <;> simp_all]
  · rw [e] at hi
    rw [show off + m + i = off + (m + i) by omega, hcell (m + i) (by omega)]
    simp [List.getD, List.getElem?_drop]

/-- A walk stands still at an append that is guarded. -/
theorem stopAppG {P : Program} {ops : Array Oper} {Q : Exit → Act → World → Prop} {rest : List Oper} {s x : Operand} {t u ty : TypeId} {dst : Option Tmp} {pos : String} {after : Array Edge} {gd : Nat × Bool} {a : Act} {w : World}
    (h : Hid (wpList P ops Q ({ dst := dst, op := .call { callee := .builtin .append, args := #[s, x], argTypes := #[t, u] }, type := ty, pos := pos, after := after, guard := some gd } :: rest) a w)) :
    wpList P ops Q ({ dst := dst, op := .call { callee := .builtin .append, args := #[s, x], argTypes := #[t, u] }, type := ty, pos := pos, after := after, guard := some gd } :: rest) a w := h.out

/-- append onto a slice of the call's own, where the operation's guard lets it run. -/
theorem wpList_append_want {P : Program} (w : World) {ops : Array Oper} {rest : List Oper} {o : Oper} {a : Act} {Q : Exit → Act → World → Prop} (hw : Region.wanted o (yielded ops a.tmps) = true) (s x : Operand) (t : TypeId)
    (ho : o.op = .call { callee := .builtin .append, args := #[s, x], argTypes := #[t, t] })
    (base : Nat) (e : TypeId) (i : TypeInfo) (z : Value) (size bytes : Nat) (ht : P.underlying t = some (.slice e)) (hi : P.info? e = some i) (hz : i.zero = some z)
    (hsize : i.size = size) (hby : i.bytes = bytes) (hzs : z.cells.size = size) (hsz : 0 < size)
    (v : Value) (n : Nat) (xs : List Value) (hs : a.eval s = v) (hown : w.ownsRow base e size v n xs)
    (ad : Addr) (m c : Nat) (news : List Value) (hx : a.eval x = .slice (some ad) m c) (hl : news.length = m * size) (hnews : ∀ j u, news[j]? = some u → w.cell? (ad.add j) = some u) (h1 : ∀ u ∈ news, u.oneCell' = true)
    (h63 : n + m ≤ maxLen) (hbytes : (n + m) * bytes ≤ 140737488355328) (hbase : base ≤ w.heap.size)
    (h : ∀ v' w', w'.ownsRow base e size v' (n + m) (xs ++ news) → w.grownBy w' v.ownBlock → (v' = .slice none 0 0 ↔ v = .slice none 0 0 ∧ m = 0) → (v'.ownBlock = v.ownBlock ∨ v'.ownBlock = some w.heap.size) → wpList P ops Q rest (a.put o.dst v') w') :
    wpList P ops Q (o :: rest) a w := by
  obtain ⟨v', w', hr, h2, h3, h4, h5⟩ := run_append_own_at (P := P) w base t o.type e i z size bytes ht hi hz hsize hby hzs hsz v n xs hown ad m c news hl hnews h1 h63 hbytes hbase
  refine wpList_step fun K hK => ?_
  rw [if_pos hw]
  unfold Oper.wp execOp
  simp only [ho, resolve, invoke, builtin, Sem.run_bind, Sem.run_pure, Result.andThen_ok, List.map_toArray, List.map_cons, List.map_nil, hs, hx, hr]
  exact hK _ _ (h v' w' h2 h3 h4 h5)

/-- What an append of a slice of slices reads. -/
theorem Res.src {B : Nat} {w : World} {g n c : Nat} {xss : List (List Int)} (h : Res B w (.slice (some ⟨g, 0, none⟩) n c) xss) : ∃ vs : List Value, vs.length = xss.length ∧ (∀ j u, vs[j]? = some u → w.cell? ((⟨g, 0, none⟩ : Addr).add j) = some u) ∧ (∀ u ∈ vs, u.oneCell' = true) ∧
    ∀ (j : Nat) (x : List Int), xss[j]? = some x → ∃ s, vs[j]? = some s ∧ Fresh B w s x := by
  obtain ⟨vs, ho, _, hi⟩ := h
  have hl : vs.length = xss.length := by rw [ho.1, Nat.mul_one]
  refine ⟨vs, hl, ?_, fun u hu => ?_, hi⟩
  · obtain ⟨g', cap, hv, _⟩ : ∃ g' cap, Value.slice (some ⟨g, 0, none⟩) n c = .slice (some ⟨g', 0, none⟩) xss.length cap ∧ True := by
      rcases ho.2 with ⟨h2, _⟩ | ⟨g', cap, cur, hv, _⟩
      · cases h2
      · exact ⟨g', cap, hv, trivial⟩
    obtain ⟨e1, e2, e3⟩ : g = g' ∧ n = xss.length ∧ c = cap := by injection hv with h1 h2 h3; injection h1 with h1; injection h1 with h1; exact ⟨h1, h2, h3⟩
    subst e1 e2 e3
    exact ho.cells (g := g) rfl
  · obtain ⟨j, hj⟩ := List.mem_iff_getElem?.1 hu
    have hjl : j < xss.length := by
      rw [← hl]
      exact (List.getElem?_eq_some_iff.1 hj).1
    obtain ⟨s, hs, hf⟩ := hi j _ (List.getElem?_eq_getElem hjl)
    rw [hs] at hj
    injection hj with hj
    rw [← hj]
    exact hf.cell1

/-- The lists of another one, behind a slice of slices. -/
theorem Res.join {B : Nat} {w w' : World} {u v' : Value} {xss yss : List (List Int)} {vs ws : List Value} (ho : w.ownsRow B 22 1 u xss.length vs) (hi : ∀ (j : Nat) (x : List Int), xss[j]? = some x → ∃ s, vs[j]? = some s ∧ Fresh B w s x)
    (hj : ∀ (j : Nat) (x : List Int), yss[j]? = some x → ∃ s, ws[j]? = some s ∧ Fresh B w s x) (ho' : w'.ownsRow B 22 1 v' (xss.length + yss.length) (vs ++ ws)) (hg : w.grownBy w' u.ownBlock) (hv : v' ≠ .slice none 0 0) : Res B w' v' (xss ++ yss) := by
  have ht : Tag 2 w w' := tag_grown hg ho (by decide)
  have hl : vs.length = xss.length := by rw [ho.1, Nat.mul_one]
  refine ⟨vs ++ ws, by rw [List.length_append]; exact ho', hv, fun j y hy => ?_⟩
  rcases Nat.lt_or_ge j xss.length with hlt | hge
  · rw [List.getElem?_append_left hlt] at hy
    obtain ⟨s, h1, h2⟩ := hi j y hy
    exact ⟨s, by rw [List.getElem?_append_left (by omega)]; exact h1, h2.tag ht⟩
  · rw [List.getElem?_append_right hge] at hy
    obtain ⟨s, h1, h2⟩ := hj _ y hy
    exact ⟨s, by rw [List.getElem?_append_right (by omega), hl]; exact h1, h2.tag ht⟩

set_option maxHeartbeats 4000000 in
theorem fnRingScriptSteps_any (v : Value) (zs : List Int) (vk : Value) (ks : List Int) (va : Value) (ls : List Int) (vb : Value) (bs : List Int) (w : World) (hv : Ints w v zs) (hN0 : zs.length ≤ 1048576) (hk : Ints w vk ks) (hK0 : ks.length ≤ 1048576) (ha : Ints w va ls) (_ : ls.length ≤ 1048576) (hb : Ints w vb bs) (_ : bs.length ≤ 1048576) :
    Calls Try.prog 4 #[v, vk, va, vb] w fun e w' => e = .returned (.bool true) ∧ Below w.heap.size w w' := by
  obtain ⟨i0, hi, hz0, hz1, hz2⟩ := info_parts info_row
  have HV := hide hv
  have HK := hide hk
  have HA := hide ha
  have HB := hide hb
  clear hv hk ha hb
  go_enter Try.func4, Try.ntmps4
  go_wp2_with fail
  refine (played_any _ _ _ _ zs ks ls bs _ HV.out HK.out HA.out HB.out (by omega) (by omega)).mono ?_
  rintro e w1 ⟨hb1, ⟨_, rfl⟩ | ⟨z, r, v1, v2, hpl, rfl, hf, hr⟩⟩
  · go_wp2
    go_ret
    exact ⟨rfl, hb1⟩
  · obtain ⟨hok, hla, hlb, hE⟩ := playedI_some hpl
    obtain ⟨o1, o2, o3⟩ := playI_ok hok hE
    obtain ⟨H, hH⟩ : ∃ H, ks.length / 2 = H := ⟨_, rfl⟩
    have hH1 : H ≤ ks.length := by omega
    obtain ⟨z1, r1, hp1⟩ := playI_before hH1 hE
    obtain ⟨r2, hp2, rfl⟩ := playI_drop hp1 (ks.length - H) (z := z) (r := r) (by rw [show H + (ks.length - H) = ks.length by omega]; exact hE)
    have hq1 := (playI_take hla hlb hH1).trans hp1
    obtain ⟨o4, o5, o6⟩ := playI_ok hok hp1
    obtain ⟨_, _, o7⟩ := playI_ok o4 hp2
    have HO := hide hok
    have HLA := hide hla
    have HLB := hide hlb
    have HE := hide hE
    have HOZ := hide o1
    have HLZ := hide o2
    have HF := hide hf
    have HR := hide hr
    have HB1 := hide hb1
    have HLR := hide o3
    have HP1 := hide hq1
    have HP2 := hide hp2
    have HO1 := hide o4
    have HL1 := hide o5
    have HR1 := hide o6
    have HR2 := hide o7
    obtain ⟨A1, c1, rfl⟩ := hf.form o2
    obtain ⟨g2, c2, rfl, _, _, _⟩ := hr.form o3
    obtain ⟨Az, cz, rfl⟩ := HV.out.form rfl
    obtain ⟨Ak, ck, rfl⟩ := HK.out.form rfl
    obtain ⟨Aa, ca, rfl⟩ := HA.out.form hla
    obtain ⟨Ab, cb, rfl⟩ := HB.out.form hlb
    have kk := HK.out.open_.2.1
    have ka := HA.out.open_.2.1
    have kb := HB.out.open_.2.1
    have hdv : Int.tdiv (ks.length : Int) 2 = (H : Int) := by rw [Int.tdiv_eq_ediv_of_nonneg (by omega)]; omega
    have hwr : IntKind.i64.wrap (H : Int) = (H : Int) := IntWalk.i64_in _ (by omega)
    clear hpl hok hla hlb hE o1 o2 o3 hf hr hb1 hp1 hp2 hq1 o4 o5 o6 o7 hH
    go_wp2_with fail
    have hk0 : (0 : Int) ≤ (H : Int) := by omega
    have hkk : (H : Int) ≤ (ck : Int) := by omega
    have hka : (H : Int) ≤ (ca : Int) := by omega
    have hkb : (H : Int) ≤ (cb : Int) := by omega
    refine wp_region_any (by kernel_rfl) ?_
    change wpAny _ _ _ _ _ _ _ (World.drew _)
    refine take_act (i := 0) (v := .slice Az zs.length cz) (a' := ?ap0) rfl (by kernel_rfl) (by kernel_rfl) (by kernel_rfl) (fun _ _ _ h => h) (Or.inl ⟨by rfl, ?yp0⟩) ?bp0 ?_
    case yp0 => intro w; go_simp
    case bp0 => go_simp; with_reducible rfl
    refine take_act (i := 1) (v := .slice Ak ks.length ck) (a' := ?ap1) rfl (by kernel_rfl) (by kernel_rfl) (by kernel_rfl) (fun _ _ _ h => h) (Or.inl ⟨by rfl, ?yp1⟩) ?bp1 ?_
    case yp1 => intro w; go_simp
    case bp1 => go_simp; with_reducible rfl
    refine take_act (i := 2) (v := .int .i64 (H : Int)) (a' := ?ap2) rfl (by kernel_rfl) (by kernel_rfl) (by kernel_rfl) (fun _ _ _ h => h) (Or.inl ⟨by rfl, ?yp2⟩) ?bp2 ?_
    case yp2 => intro w; go_simp
    case bp2 => go_simp; with_reducible rfl
    refine take_act (i := 3) (v := .slice Ak H ck) (a' := ?ap3) rfl (by kernel_rfl) (by kernel_rfl) (by kernel_rfl) (fun _ _ _ h => h) (Or.inl ⟨by rfl, ?yp3⟩) ?bp3 ?_
    case yp3 => intro w; go_simp
    case bp3 => go_simp; with_reducible rfl
    refine take_act (i := 4) (v := .slice Aa ks.length ca) (a' := ?ap4) rfl (by kernel_rfl) (by kernel_rfl) (by kernel_rfl) (fun _ _ _ h => h) (Or.inl ⟨by rfl, ?yp4⟩) ?bp4 ?_
    case yp4 => intro w; go_simp
    case bp4 => go_simp; with_reducible rfl
    refine take_act (i := 5) (v := .int .i64 (H : Int)) (a' := ?ap5) rfl (by kernel_rfl) (by kernel_rfl) (by kernel_rfl) (fun _ _ _ h => h) (Or.inl ⟨by rfl, ?yp5⟩) ?bp5 ?_
    case yp5 => intro w; go_simp
    case bp5 => go_simp; with_reducible rfl
    refine take_act (i := 6) (v := .slice Aa H ca) (a' := ?ap6) rfl (by kernel_rfl) (by kernel_rfl) (by kernel_rfl) (fun _ _ _ h => h) (Or.inl ⟨by rfl, ?yp6⟩) ?bp6 ?_
    case yp6 => intro w; go_simp
    case bp6 => go_simp; with_reducible rfl
    refine take_act (i := 7) (v := .slice Ab ks.length cb) (a' := ?ap7) rfl (by kernel_rfl) (by kernel_rfl) (by kernel_rfl) (fun _ _ _ h => h) (Or.inl ⟨by rfl, ?yp7⟩) ?bp7 ?_
    case yp7 => intro w; go_simp
    case bp7 => go_simp; with_reducible rfl
    refine take_act (i := 8) (v := .int .i64 (H : Int)) (a' := ?ap8) rfl (by kernel_rfl) (by kernel_rfl) (by kernel_rfl) (fun _ _ _ h => h) (Or.inl ⟨by rfl, ?yp8⟩) ?bp8 ?_
    case yp8 => intro w; go_simp
    case bp8 => go_simp; with_reducible rfl
    refine take_act (i := 9) (v := .slice Ab H cb) (a' := ?ap9) rfl (by kernel_rfl) (by kernel_rfl) (by kernel_rfl) (fun _ _ _ h => h) (Or.inl ⟨by rfl, ?yp9⟩) ?bp9 ?_
    case yp9 => intro w; go_simp
    case bp9 => go_simp; with_reducible rfl
    have HVD := hide ((HV.out.below HB1.out).below (Below.refl _ _).drew)
    have HDK := hide (ints_take ((HK.out.below HB1.out).below (Below.refl _ _).drew) hH1)
    have HDA := hide (ints_take ((HA.out.below HB1.out).below (Below.refl _ _).drew) hH1)
    have HDB := hide (ints_take ((HB.out.below HB1.out).below (Below.refl _ _).drew) hH1)
    have HLT : Hid ((ks.take H).length = H ∧ (ls.take H).length = H ∧ (bs.take H).length = H) := ⟨by rw [List.length_take]; omega, by rw [List.length_take, HLA.out]; omega, by rw [List.length_take, HLB.out]; omega⟩
    refine wpAny_ready (rs := [10]) (by kernel_rfl) (by simp) ?_
    refine AllReady.cons rfl (fun K hK => ?_) AllReady.nil
    go_simp
    go_wp2_with (go_at_call 9; refine (script_any _ _ _ _ zs (ks.take H) (ls.take H) (bs.take H) z1 r1 _ HVD.out HDK.out HDA.out HDB.out (by omega) (by rw [HLT.out.1]; omega) HO.out (by rw [HLT.out.2.1, HLT.out.1]) (by rw [HLT.out.2.2, HLT.out.1]) (by rw [HLT.out.1]; exact HP1.out)).mono ?_; rintro e w2 ⟨hb2, x1, x2, x3, rfl, hf1, hf2, hr3⟩; have H3 := hide hf1; have H5 := hide hr3; obtain ⟨A3, c3, rfl⟩ := hf1.form HL1.out; obtain ⟨A4, c4, rfl⟩ := hf2.form (nums_len _ _); obtain ⟨g5, c5, rfl, _, _, _⟩ := hr3.form HR1.out; have HB2 := hide ((Below.refl _ _).drew.trans hb2); clear hf1 hf2 hr3 hb2)
    refine take_act (i := 11) (v := .tuple #[.slice A3 zs.length c3, .slice A4 zs.length c4, .slice (some ⟨g5, 0, none⟩) H c5]) (a' := ?ap11) rfl (by kernel_rfl) (by kernel_rfl) (by kernel_rfl) (fun _ _ _ h => h) (Or.inl ⟨by rfl, ?yp11⟩) ?bp11 ?_
    case yp11 => intro w; go_simp
    case bp11 => go_simp; with_reducible rfl
    refine take_act (i := 12) (v := .slice A3 zs.length c3) (a' := ?ap12) rfl (by kernel_rfl) (by kernel_rfl) (by kernel_rfl) (fun _ _ _ h => h) (Or.inl ⟨by rfl, ?yp12⟩) ?bp12 ?_
    case yp12 => intro w; go_simp
    case bp12 => go_simp; with_reducible rfl
    refine take_act (i := 13) (v := .slice A4 zs.length c4) (a' := ?ap13) rfl (by kernel_rfl) (by kernel_rfl) (by kernel_rfl) (fun _ _ _ h => h) (Or.inl ⟨by rfl, ?yp13⟩) ?bp13 ?_
    case yp13 => intro w; go_simp
    case bp13 => go_simp; with_reducible rfl
    refine take_act (i := 14) (v := .slice (some ⟨g5, 0, none⟩) H c5) (a' := ?ap14) rfl (by kernel_rfl) (by kernel_rfl) (by kernel_rfl) (fun _ _ _ h => h) (Or.inl ⟨by rfl, ?yp14⟩) ?bp14 ?_
    case yp14 => intro w; go_simp
    case bp14 => go_simp; with_reducible rfl
    refine take_act (i := 15) (v := .slice A3 zs.length c3) (a' := ?ap15) rfl (by kernel_rfl) (by kernel_rfl) (by kernel_rfl) (fun _ _ _ h => h) (Or.inl ⟨by rfl, ?yp15⟩) ?bp15 ?_
    case yp15 => intro w; go_simp
    case bp15 => go_simp; with_reducible rfl
    refine take_act (i := 16) (v := .slice A4 zs.length c4) (a' := ?ap16) rfl (by kernel_rfl) (by kernel_rfl) (by kernel_rfl) (fun _ _ _ h => h) (Or.inl ⟨by rfl, ?yp16⟩) ?bp16 ?_
    case yp16 => intro w; go_simp
    case bp16 => go_simp; with_reducible rfl
    refine take_act (i := 17) (v := .slice (some ⟨g5, 0, none⟩) H c5) (a' := ?ap17) rfl (by kernel_rfl) (by kernel_rfl) (by kernel_rfl) (fun _ _ _ h => h) (Or.inl ⟨by rfl, ?yp17⟩) ?bp17 ?_
    case yp17 => intro w; go_simp
    case bp17 => go_simp; with_reducible rfl
    refine wpAny_done (by kernel_rfl) ?_ _
    replace HF := hide (HF.out.below HB2.out)
    replace HR := hide (HR.out.below HB2.out)
    have HBW := hide (HB1.out.trans (HB2.out.mono HB1.out.size))
    replace H3 := hide (H3.out.mono HB1.out.size)
    replace H5 := hide (H5.out.mono HB1.out.size)
    have hnn : ((zs.length : Int) != (zs.length : Int)) = false := by simp
    clear HVD HDK HDA HDB HLT
    go_wp2_with fail
    refine (rings_is _ z1 _ true (ringsB_of HO1.out) H3.out.ints (by rw [HL1.out]; omega)).mono ?_
    rintro e w3 ⟨rfl, hb3⟩
    replace HF := hide (HF.out.below hb3)
    replace HR := hide (HR.out.below hb3)
    replace H3 := hide (H3.out.below hb3)
    replace H5 := hide (H5.out.below hb3)
    replace HBW := hide (HBW.out.trans (hb3.mono HBW.out.size))
    clear hb3 HB2
    go_wp2_with fail
    have hkn : (H : Int) ≤ (ks.length : Int) := by omega
    refine wp_region_any (by kernel_rfl) ?_
    change wpAny _ _ _ _ _ _ _ (World.drew _)
    refine take_act (i := 0) (v := .slice A3 zs.length c3) (a' := ?aq0) rfl (by kernel_rfl) (by kernel_rfl) (by kernel_rfl) (fun _ _ _ h => h) (Or.inl ⟨by rfl, ?yq0⟩) ?bq0 ?_
    case yq0 => intro w; go_simp
    case bq0 => go_simp; with_reducible rfl
    obtain ⟨Bk, hBk⟩ : ∃ B, (if ck = H then Ak else Ak.map (·.add H)) = B := ⟨_, rfl⟩
    refine take_act (i := 1) (v := .slice Ak ks.length ck) (a' := ?aq1) rfl (by kernel_rfl) (by kernel_rfl) (by kernel_rfl) (fun _ _ _ h => h) (Or.inl ⟨by rfl, ?yq1⟩) ?bq1 ?_
    case yq1 => intro w; go_simp
    case bq1 => go_simp; with_reducible rfl
    refine take_act (i := 2) (v := .int .i64 (H : Int)) (a' := ?aq2) rfl (by kernel_rfl) (by kernel_rfl) (by kernel_rfl) (fun _ _ _ h => h) (Or.inl ⟨by rfl, ?yq2⟩) ?bq2 ?_
    case yq2 => intro w; go_simp
    case bq2 => go_simp; with_reducible rfl
    refine take_act (i := 3) (v := .slice Bk (ks.length - H) (ck - H)) (a' := ?aq3) rfl (by kernel_rfl) (by kernel_rfl) (by kernel_rfl) (fun _ _ _ h => h) (Or.inl ⟨by rfl, ?yq3⟩) ?bq3 ?_
    case yq3 => intro w; go_simp
    case bq3 => go_simp; with_reducible rfl
    replace hBk := hide hBk
    obtain ⟨Ba, hBa⟩ : ∃ B, (if ca = H then Aa else Aa.map (·.add H)) = B := ⟨_, rfl⟩
    refine take_act (i := 4) (v := .slice Aa ks.length ca) (a' := ?aq4) rfl (by kernel_rfl) (by kernel_rfl) (by kernel_rfl) (fun _ _ _ h => h) (Or.inl ⟨by rfl, ?yq4⟩) ?bq4 ?_
    case yq4 => intro w; go_simp
    case bq4 => go_simp; with_reducible rfl
    refine take_act (i := 5) (v := .int .i64 (H : Int)) (a' := ?aq5) rfl (by kernel_rfl) (by kernel_rfl) (by kernel_rfl) (fun _ _ _ h => h) (Or.inl ⟨by rfl, ?yq5⟩) ?bq5 ?_
    case yq5 => intro w; go_simp
    case bq5 => go_simp; with_reducible rfl
    refine take_act (i := 6) (v := .slice Ba (ks.length - H) (ca - H)) (a' := ?aq6) rfl (by kernel_rfl) (by kernel_rfl) (by kernel_rfl) (fun _ _ _ h => h) (Or.inl ⟨by rfl, ?yq6⟩) ?bq6 ?_
    case yq6 => intro w; go_simp
    case bq6 => go_simp; with_reducible rfl
    replace hBa := hide hBa
    obtain ⟨Bb, hBb⟩ : ∃ B, (if cb = H then Ab else Ab.map (·.add H)) = B := ⟨_, rfl⟩
    refine take_act (i := 7) (v := .slice Ab ks.length cb) (a' := ?aq7) rfl (by kernel_rfl) (by kernel_rfl) (by kernel_rfl) (fun _ _ _ h => h) (Or.inl ⟨by rfl, ?yq7⟩) ?bq7 ?_
    case yq7 => intro w; go_simp
    case bq7 => go_simp; with_reducible rfl
    refine take_act (i := 8) (v := .int .i64 (H : Int)) (a' := ?aq8) rfl (by kernel_rfl) (by kernel_rfl) (by kernel_rfl) (fun _ _ _ h => h) (Or.inl ⟨by rfl, ?yq8⟩) ?bq8 ?_
    case yq8 => intro w; go_simp
    case bq8 => go_simp; with_reducible rfl
    refine take_act (i := 9) (v := .slice Bb (ks.length - H) (cb - H)) (a' := ?aq9) rfl (by kernel_rfl) (by kernel_rfl) (by kernel_rfl) (fun _ _ _ h => h) (Or.inl ⟨by rfl, ?yq9⟩) ?bq9 ?_
    case yq9 => intro w; go_simp
    case bq9 => go_simp; with_reducible rfl
    replace hBb := hide hBb
    have HXD := hide (H3.out.ints.below (Below.refl _ _).drew)
    have HDK := hide (ints_drop (A' := Bk) ((HK.out.below HBW.out).below (Below.refl _ _).drew) hH1 (fun h => by rw [← hBk.out]; exact if_neg (by omega)))
    have HDA := hide (ints_drop (A' := Ba) ((HA.out.below HBW.out).below (Below.refl _ _).drew) hH1 (fun h => by rw [← hBa.out]; exact if_neg (by omega)))
    have HDB := hide (ints_drop (A' := Bb) ((HB.out.below HBW.out).below (Below.refl _ _).drew) hH1 (fun h => by rw [← hBb.out]; exact if_neg (by omega)))
    have HLD : Hid ((ks.drop H).length = ks.length - H ∧ (ls.drop H).length = ks.length - H ∧ (bs.drop H).length = ks.length - H) := ⟨by rw [List.length_drop], by rw [List.length_drop, HLA.out], by rw [List.length_drop, HLB.out]⟩
    refine wpAny_ready (rs := [10]) (by kernel_rfl) (by simp) ?_
    refine AllReady.cons rfl (fun K hK => ?_) AllReady.nil
    go_simp
    go_wp2_with (go_at_call 9; refine (script_any _ _ _ _ z1 (ks.drop H) (ls.drop H) (bs.drop H) z r2 _ HXD.out HDK.out HDA.out HDB.out (by rw [HL1.out]; omega) (by rw [HLD.out.1]; omega) HO1.out (by rw [HLD.out.2.1, HLD.out.1]) (by rw [HLD.out.2.2, HLD.out.1]) (by rw [HLD.out.1]; exact HP2.out)).mono ?_; rintro e w4 ⟨hb2, x1, x2, x3, rfl, hf1, hf2, hr3⟩; have H6 := hide hf1; have H8 := hide hr3; obtain ⟨A6, c6, rfl⟩ := hf1.form HLZ.out; obtain ⟨A7, c7, rfl⟩ := hf2.form (nums_len _ _); obtain ⟨g8, c8, rfl, _, _, _⟩ := hr3.form HR2.out; have HB2 := hide ((Below.refl _ _).drew.trans hb2); clear hf1 hf2 hr3 hb2)
    refine take_act (i := 11) (v := .tuple #[.slice A6 zs.length c6, .slice A7 z1.length c7, .slice (some ⟨g8, 0, none⟩) (ks.length - H) c8]) (a' := ?aq11) rfl (by kernel_rfl) (by kernel_rfl) (by kernel_rfl) (fun _ _ _ h => h) (Or.inl ⟨by rfl, ?yq11⟩) ?bq11 ?_
    case yq11 => intro w; go_simp
    case bq11 => go_simp; with_reducible rfl
    refine take_act (i := 12) (v := .slice A6 zs.length c6) (a' := ?aq12) rfl (by kernel_rfl) (by kernel_rfl) (by kernel_rfl) (fun _ _ _ h => h) (Or.inl ⟨by rfl, ?yq12⟩) ?bq12 ?_
    case yq12 => intro w; go_simp
    case bq12 => go_simp; with_reducible rfl
    refine take_act (i := 13) (v := .slice A7 z1.length c7) (a' := ?aq13) rfl (by kernel_rfl) (by kernel_rfl) (by kernel_rfl) (fun _ _ _ h => h) (Or.inl ⟨by rfl, ?yq13⟩) ?bq13 ?_
    case yq13 => intro w; go_simp
    case bq13 => go_simp; with_reducible rfl
    refine take_act (i := 14) (v := .slice (some ⟨g8, 0, none⟩) (ks.length - H) c8) (a' := ?aq14) rfl (by kernel_rfl) (by kernel_rfl) (by kernel_rfl) (fun _ _ _ h => h) (Or.inl ⟨by rfl, ?yq14⟩) ?bq14 ?_
    case yq14 => intro w; go_simp
    case bq14 => go_simp; with_reducible rfl
    refine take_act (i := 15) (v := .slice A6 zs.length c6) (a' := ?aq15) rfl (by kernel_rfl) (by kernel_rfl) (by kernel_rfl) (fun _ _ _ h => h) (Or.inl ⟨by rfl, ?yq15⟩) ?bq15 ?_
    case yq15 => intro w; go_simp
    case bq15 => go_simp; with_reducible rfl
    refine take_act (i := 16) (v := .slice A7 z1.length c7) (a' := ?aq16) rfl (by kernel_rfl) (by kernel_rfl) (by kernel_rfl) (fun _ _ _ h => h) (Or.inl ⟨by rfl, ?yq16⟩) ?bq16 ?_
    case yq16 => intro w; go_simp
    case bq16 => go_simp; with_reducible rfl
    refine take_act (i := 17) (v := .slice (some ⟨g8, 0, none⟩) (ks.length - H) c8) (a' := ?aq17) rfl (by kernel_rfl) (by kernel_rfl) (by kernel_rfl) (fun _ _ _ h => h) (Or.inl ⟨by rfl, ?yq17⟩) ?bq17 ?_
    case yq17 => intro w; go_simp
    case bq17 => go_simp; with_reducible rfl
    refine wpAny_done (by kernel_rfl) ?_ _
    replace HF := hide (HF.out.below HB2.out)
    replace HR := hide (HR.out.below HB2.out)
    replace H5 := hide (H5.out.below HB2.out)
    replace H6 := hide (H6.out.mono HBW.out.size)
    replace H8 := hide (H8.out.mono HBW.out.size)
    replace HBW := hide (HBW.out.trans (HB2.out.mono HBW.out.size))
    clear HXD HDK HDA HDB HLD HB2 H3
    go_wp2_with fail
    refine (same_true _ _ z _ H6.out.ints HF.out.ints (by rw [HLZ.out]; omega)).mono ?_
    rintro e w5 ⟨rfl, hb3⟩
    replace HR := hide (HR.out.below hb3)
    replace H5 := hide (H5.out.below hb3)
    replace H8 := hide (H8.out.below hb3)
    replace HBW := hide (HBW.out.trans (hb3.mono HBW.out.size))
    clear hb3 HF H6
    have HS8 := hide HBW.out.size
    obtain ⟨vs1, l1, cells1, one1, in1⟩ := (H5.out.below ((Below.refl _ _).alloc (Nat.le_refl _) (.cells #[] 22))).src
    have hst := World.ownsRow_made (base := w.heap.size) (e := 22) (size := 1) w5 #[] 0 HS8.out (Nat.zero_le _) rfl
    have HL5 := hide l1
    have HC5 := hide cells1
    have HN5 := hide one1
    have HI5 := hide in1
    have HST := hide hst
    clear l1 cells1 one1 in1 hst
    go_wp2_with (at_builtin; with_reducible refine stopAppG ?_)
    refine hide ?_
    refine wpList_append_want _ (by rfl) _ _ 23 rfl w.heap.size 22 i0 (.slice none 0 0) 1 24 Try.underlying23 hi hz0 hz1 hz2 rfl (by decide) (.slice (some ⟨w5.heap.size, 0, none⟩) 0 0) 0 [] rfl ?own ⟨g5, 0, none⟩ (H) c5 vs1 ?hx ?hl ?hnews ?h1 ?c3 ?c4 ?c5 ?_
    case own => exact HST.out
    case hx => rfl
    case hl => rw [HL5.out, HR1.out, Nat.mul_one]
    case hnews => exact HC5.out
    case h1 => exact HN5.out
    case c3 => unfold maxLen; omega
    case c4 => omega
    case c5 => have := HS8.out; simp; omega
    intro v' w6 hown' hgrow hnil hlies
    have hne : v' ≠ .slice none 0 0 := fun e => by have := (hnil.1 e).1; cases this
    have J1 := hide (Res.join (xss := []) (yss := r1) HST.out (fun j x hj => by simp at hj) HI5.out (by rw [HR1.out]; exact hown') hgrow hne)
    have HB6 : Hid (Below w5.heap.size w5 w6) := ((Below.refl _ _).alloc (Nat.le_refl _) _).grown hgrow (by simp) (fun k hk => by have e : w5.heap.size = k := (by simpa [Value.ownBlock] using hk); omega)
    have hlo : ∀ k, v'.ownBlock = some k → w5.heap.size ≤ k := fun k hk => by
      rcases hlies with h | h
      · rw [h] at hk
        have e : w5.heap.size = k := (by simpa [Value.ownBlock] using hk)
        omega
      · rw [h] at hk
        have e : w5.heap.size + 1 = k := (by simpa using hk)
        omega
    have HLO := hide hlo
    obtain ⟨g9, c9, rfl, _, _, _⟩ := J1.out.form (show ([] ++ r1 : List (List Int)).length = H from HR1.out)
    obtain ⟨ws, ho9, _, hi9⟩ := J1.out
    have HO9 := hide ho9
    have HI9 := hide hi9
    rw [show ([] ++ r1 : List (List Int)).length = H from HR1.out] at HO9
    obtain ⟨vs2, l2, cells2, one2, in2⟩ := (H8.out.below HB6.out).src
    have HL8 := hide l2
    have HC8 := hide cells2
    have HN8 := hide one2
    have HI8 := hide in2
    clear hown' hgrow hnil hne hlies hlo ho9 hi9 l2 cells2 one2 in2 HL5 HC5 HN5 HI5
    go_wp2_with (at_builtin; with_reducible refine stopAppG ?_)
    refine hide ?_
    refine wpList_append_want _ (by rfl) _ _ 23 rfl w.heap.size 22 i0 (.slice none 0 0) 1 24 Try.underlying23 hi hz0 hz1 hz2 rfl (by decide) (.slice (some ⟨g9, 0, none⟩) H c9) H ws rfl ?own ⟨g8, 0, none⟩ (ks.length - H) c8 vs2 ?hx ?hl ?hnews ?h1 ?c3 ?c4 ?c5 ?_
    case own => exact HO9.out
    case hx => rfl
    case hl => rw [HL8.out, HR2.out, Nat.mul_one]
    case hnews => exact HC8.out
    case h1 => exact HN8.out
    case c3 => unfold maxLen; omega
    case c4 => omega
    case c5 => exact Nat.le_trans HS8.out HB6.out.size
    intro v' w7 hown' hgrow hnil _
    have hne : v' ≠ .slice none 0 0 := fun e => by have := (hnil.1 e).1; cases this
    have J2 := hide (Res.join (xss := r1) (yss := r2) (by rw [HR1.out]; exact HO9.out) HI9.out HI8.out (by rw [HR1.out, HR2.out]; exact hown') hgrow hne)
    have HB7 : Hid (Below w5.heap.size w5 w7) := HB6.out.grown hgrow HB6.out.size (fun k hk => HLO.out k hk)
    obtain ⟨g10, c10, rfl, _, _, _⟩ := J2.out.form HLR.out
    clear hown' hgrow hnil hne HO9 HI9 HL8 HC8 HN8 HI8 HB6 HLO
    go_wp2_with fail
    refine (all_true _ _ (r1 ++ r2) _ J2.out (HR.out.below HB7.out) (by rw [HLR.out]; omega) (fun j x hj => by have := playI_rows HO.out HE.out j x hj; omega)).mono ?_
    rintro e w8 ⟨rfl, hb8⟩
    have B7 := HBW.out.trans (HB7.out.mono HBW.out.size)
    have HB8 := hide (B7.trans (hb8.mono B7.size))
    clear B7 hb8
    go_wp2
    go_ret
    exact ⟨rfl, HB8.out⟩

end Go.Proofs.Ytpdimdpphbobiaa
