/- The search for a part by its name: the walk over the reference's own. Nothing is claimed here. -/
import Derived.Test.YtfilbgmbmlmdbaaGreatDoorZ14
import Derived.Laws.ResultCell
import Derived.StillTailTactics
import Derived.Test.YtfilbgmbmlmdbaaGreatDoorZ13
set_option linter.unusedSimpArgs false
set_option linter.unusedVariables false
set_option maxRecDepth 1000000
set_option maxHeartbeats 16000000
namespace Go.Proofs.YtfilbgmbmlmdbaaGreatDoor
open Go.RowKit Go.MapKept
theorem results_ctt {fn : Func} {p u v : Tmp} {ty : TypeId} (h : fn.results = #[.cell p ty, .tmp u, .tmp v]) (tmps : Array Value) (P : Program) (w : World) :
  (results fn tmps).run P w =
   ((asAddr (tmps.getD p undef)).run P w).andThen fun a w₁ => ((loadVar ty a).run P w₁).andThen fun x w₂ => .ok (.tuple #[x, tmps.getD u undef, tmps.getD v undef]) w₂ := by
 simp only [results, h]
 simp [Sem.run_bind, Result.andThen]
theorem results_cct {fn : Func} {p q u : Tmp} {ty tz : TypeId} (h : fn.results = #[.cell p ty, .cell q tz, .tmp u]) (tmps : Array Value) (P : Program) (w : World) :
  (results fn tmps).run P w =
   ((asAddr (tmps.getD p undef)).run P w).andThen fun a w₁ => ((loadVar ty a).run P w₁).andThen fun x w₂ =>
    ((asAddr (tmps.getD q undef)).run P w₂).andThen fun b w₃ => ((loadVar tz b).run P w₃).andThen fun y w₄ => .ok (.tuple #[x, y, tmps.getD u undef]) w₄ := by
 simp only [results, h]
 simp [Sem.run_bind, Result.andThen]
theorem results_c {fn : Func} {p : Tmp} {ty : TypeId} (h : fn.results = #[.cell p ty]) (tmps : Array Value) (P : Program) (w : World) :
  (results fn tmps).run P w = ((asAddr (tmps.getD p undef)).run P w).andThen fun a w₁ => (loadVar ty a).run P w₁ := by
 simp only [results, h]
 simp [Sem.run_bind, Result.andThen]
theorem Leads.old {w w' : World} {D : Nat → Prop} {b b' : Nat} {t : Ty} (l : Leads w D b t b') (hb : Below w.heap.size w w') : Leads w' D b t b' := by
 induction l with
 | here r h0 k8 k10 hbh => exact .here (r.old hb) ((hb.cell (p := ⟨_, 0, none⟩) r.lt).trans h0) k8 k10 hbh
 | step hk h0 h4 lt _ hbh hl ih => exact .step hk ((hb.cell (p := ⟨_, 0, none⟩) lt).trans h0) ((hb.cell (p := ⟨_, 4, none⟩) lt).trans h4) (Nat.lt_of_lt_of_le lt hb.size) ih hbh hl
theorem Leads.lt {w : World} {D : Nat → Prop} {b b' : Nat} {t : Ty} (l : Leads w D b t b') : b < w.heap.size := by
 cases l with
 | here r => exact r.lt
 | step _ _ _ lt => exact lt
theorem Leads.comp {w : World} {D : Nat → Prop} {b : Nat} {un : Bool} {nm : ByteArray} {sz n : Nat} {pn : Nat → ByteArray} {py : Nat → Ty} {pa pb : Nat → Nat} (r : Rep w D b (.comp un nm sz n pn py pa pb)) : Leads w D b (.comp un nm sz n pn py pa pb) b :=
 .here r r.kindCell (by cases un <;> rfl) (by cases un <;> rfl) rfl
theorem leads_calls {w : World} {D : Nat → Prop} {b b' : Nat} {t : Ty} (l : Leads w D b t b') : Calls Tryz.prog 13 #[.pointer (some ⟨b, 0, none⟩)] w fun e w' => e = .returned (.pointer (some ⟨b', 0, none⟩)) ∧ w' = w := by
 have lb := l.lt
 go_enter Tryz.func13, Tryz.ntmps13
 go_wp2
 go_loopg [0] t.layers (fun k v wr => ∃ c u, v = .pointer (some ⟨c, 0, none⟩) ∧ Leads w D c u b' ∧ u.layers ≤ k ∧ w = wr)
 case atStart => exact ⟨b, t, rfl, l, Nat.le_refl _, rfl⟩
 case round =>
  obtain ⟨c, u, rfl, lu, hk, rfl⟩ := hrel
  cases lu with
  | here r h0 k8 k10 hb =>
   have lc := r.lt
   clear hb r l
   go_wp2
   go_ret
   exact ⟨rfl, rfl⟩
  | @step _ c2 _ _ u2 k hkk h0 h4 lt l2 hb hl =>
   have hlt : u2.layers < gk := by omega
   have L2 := Lib.hid l2
   clear hl hb l l2
   rcases hkk with rfl | rfl
   all_goals
    go_wp2
    go_roundg u2.layers
    case measure => exact hlt
    case rel => exact ⟨c2, u2, rfl, L2.out, Nat.le_refl _, rfl⟩
theorem below5 {B : Nat} {w w' : World} {b : Nat} (h : Below B w w') (hb : B ≤ b) (a0 a1 a2 a3 a4 : Value) : Below B w (((((w'.setCell ⟨b, 0, none⟩ a0).setCell ⟨b, 1, none⟩ a1).setCell ⟨b, 2, none⟩ a2).setCell ⟨b, 3, none⟩ a3).setCell ⟨b, 4, none⟩ a4) :=
 ((((h.setCell (p := ⟨b, 0, none⟩) hb _).setCell (p := ⟨b, 1, none⟩) hb _).setCell (p := ⟨b, 2, none⟩) hb _).setCell (p := ⟨b, 3, none⟩) hb _).setCell (p := ⟨b, 4, none⟩) hb _
theorem elemInner : ElemOk Tryz.prog 94 93 2 16 := .of (z := .agg #[.pointer none, .int .i64 0]) Tryz.underlying94 (by kernel_rfl) (by rfl) (by decide)
theorem anonU_prefix {pn : Nat → ByteArray} {py : Nat → Ty} {pa : Nat → Nat} {o : Nat} : ∀ (d j : Nat), ∃ r, anonU pn py pa (j + d) o = anonU pn py pa j o ++ r := by
 intro d
 induction d with
 | zero => intro j; exact ⟨[], (List.append_nil _).symm⟩
 | succ d ih =>
  intro j
  obtain ⟨r, hr⟩ := ih j
  by_cases h : (pn (j + d)).size = 0
  ·exact ⟨r ++ [(py (j + d), o + pa (j + d))], by rw [← Nat.add_assoc, anonU_anon h, hr, List.append_assoc]⟩
  ·exact ⟨r, by rw [← Nat.add_assoc, anonU_named h, hr]⟩
theorem anonU_at {pn : Nat → ByteArray} {py : Nat → Ty} {pa : Nat → Nat} {o j n : Nat} (hj : j < n) (h : (pn j).size = 0) : (anonU pn py pa n o)[(anonU pn py pa j o).length]? = some (py j, o + pa j) := by
 obtain ⟨r, hr⟩ := anonU_prefix (pn := pn) (py := py) (pa := pa) (o := o) (n - (j + 1)) (j + 1)
 rw [show j + 1 + (n - (j + 1)) = n by omega] at hr
 rw [hr, anonU_anon h, List.append_assoc]
 simp
structure Lst (W : World) (D : Nat → Prop) (LL : List (Ty × Nat)) (B m : Nat) (v : Value) (xs : List Value) (w : World) : Prop where
 own : w.ownsRow B 93 2 v m xs
 row : ∀ i, i < m → ∃ p x o, LL[i]? = some (x, o) ∧ Tgt x o ∧ xs[2 * i]? = some (.pointer (some ⟨p, 0, none⟩)) ∧ xs[2 * i + 1]? = some (.int .i64 (o : Nat)) ∧ Rep W D p x
 old : Below W.heap.size W w
 base : W.heap.size ≤ B
theorem Lst.below {W w w' : World} {D : Nat → Prop} {LL : List (Ty × Nat)} {B m : Nat} {v : Value} {xs : List Value} (h : Lst W D LL B m v xs w) (hb : Below w.heap.size w w') : Lst W D LL B m v xs w' :=
 ⟨ownsRow_of h.own (fun g _ hl => hb.block g hl), h.row, h.old.trans (hb.mono h.old.size), h.base⟩
theorem Lst.push {W w w' : World} {D : Nat → Prop} {LL : List (Ty × Nat)} {B m g cap p o : Nat} {v : Value} {xs : List Value} {x : Ty} (h : Lst W D LL B m v xs w) (ha : Appended w B 93 2 v m 1 xs [.pointer (some ⟨p, 0, none⟩), .int .i64 (o : Nat)] g cap w') (hl : LL[m]? = some (x, o)) (ht : Tgt x o) (r : Rep W D p x) :
  Lst W D LL B (m + 1) (.slice (some ⟨g, 0, none⟩) (m + 1) cap) (xs ++ [.pointer (some ⟨p, 0, none⟩), .int .i64 (o : Nat)]) w' := by
 have hx := h.own.1
 refine ⟨ha.1, fun i hi => ?_, ha.below h.own h.old h.old.size h.base, h.base⟩
 by_cases h1 : i < m
 ·obtain ⟨p', x', o', e1, e2, e3, e4, e5⟩ := h.row i h1
  exact ⟨p', x', o', e1, e2, by rw [List.getElem?_append_left (by omega)]; exact e3, by rw [List.getElem?_append_left (by omega)]; exact e4, e5⟩
 ·obtain rfl : i = m := by omega
  exact ⟨p, x, o, hl, ht, by rw [List.getElem?_append_right (by omega), show 2 * i - xs.length = 0 by omega]; rfl, by rw [List.getElem?_append_right (by omega), show 2 * i + 1 - xs.length = 1 by omega]; rfl, r⟩
def Named (W : World) (D : Nat → Prop) (nm : ByteArray) (r : Option Hit) (e : Ending) : Prop := match r with
 | some h => ∃ p, e = .returned (.tuple #[.agg #[.string nm, .pointer (some ⟨p, 0, none⟩), .int .i64 (h.at_ : Nat), .int .i64 (h.bits : Nat), .int .i64 0], .bool h.last, .bool true]) ∧ Rep W D p h.y
 | none => e = .returned (.tuple #[.agg #[.string ⟨#[]⟩, .pointer none, .int .i64 0, .int .i64 0, .int .i64 0], .bool false, .bool false])
theorem partNamed_any {W : World} {D : Nat → Prop} {b : Nat} {t : Ty} {nm : ByteArray} (r : Rep W D b t) (hs : Shp t) :
  Calls Tryz.prog 27 #[.pointer (some ⟨b, 0, none⟩), .string nm] W fun e w' => Named W D nm (findP nm t) e ∧ Below W.heap.size W w' := by
 obtain ⟨un, tn, sz, n, pn, py, pa, pb, rfl, hn, hpb, hsh⟩ := hs
 obtain ⟨LL, hLL⟩ : ∃ LL, LL = (Ty.comp un tn sz n pn py pa pb, 0) :: anonU pn py pa n 0 := ⟨_, rfl⟩
 have hF : findP nm (.comp un tn sz n pn py pa pb) = LL.findSome? (hit nm) := by rw [hLL]; rfl
 have hLn : LL.length ≤ 41 := by rw [hLL, List.length_cons]; have := anonU_len pn py pa 0 n; omega
 have hL0 : LL[0]? = some (Ty.comp un tn sz n pn py pa pb, 0) := by rw [hLL]; rfl
 rw [hF]
 have hL1 : 1 ≤ LL.length := (List.getElem?_eq_some_iff.1 hL0).1
 have hblt := r.lt
 have HSH := Lib.hid hsh
 have HPB := Lib.hid hpb
 have HR := Lib.hid r
 have HLL := Lib.hid hLL
 have HL0 := Lib.hid hL0
 clear hF hLL hL0 hsh hpb r
 obtain ⟨wA, rfl⟩ : ∃ wA : World, wA = W := ⟨_, rfl⟩
 go_enter Tryz.func27, Tryz.ntmps27
 go_wp2_with fail
 go_loopg [7, 8] (LL.length) (fun gk s7 s8 wr => ∃ (k m : Nat) (v : Value) (xs : List Value), Hid (Lst wA D LL (wA.heap.size + 1) m v xs wr) ∧ v = s7 ∧ s8 = .int .i64 (k : Int) ∧ k ≤ m ∧ m ≤ LL.length ∧ LL.length - k ≤ gk ∧ Hid ((k = 0 ∧ m = 1) ∨ (1 ≤ k ∧ m = LL.length)) ∧
  Hid (∀ k', k' < k → ∀ p, LL[k']? = some p → hit nm p = none) ∧ Hid (Blk wr wA.heap.size #[.string ⟨#[]⟩, .pointer none, .int .i64 0, .int .i64 0, .int .i64 0] 56))
 case atStart =>
  exact ⟨0, 1, _, [.pointer (some ⟨b, 0, none⟩), .int .i64 0], Lib.hid ⟨⟨rfl, .inr ⟨wA.heap.size + 1, 1, _, rfl, Nat.le_refl _, Blk.newAt _ _ _ (by simp), Nat.le_refl _, by decide, rfl, rfl⟩⟩, fun i hi => by
   obtain rfl : i = 0 := by omega
   exact ⟨b, _, 0, HL0.out, ⟨un, tn, sz, n, pn, py, pa, pb, rfl, hn, Nat.zero_le _, HPB.out⟩, rfl, rfl, HR.out⟩, ((Below.refl _ _).alloc (Nat.le_refl _) _).alloc (by simp) _, Nat.le_succ _⟩, rfl, rfl, Nat.zero_le _, hL1, by omega, Lib.hid (.inl ⟨rfl, rfl⟩), Lib.hid (fun k' h => absurd h (Nat.not_lt_zero k')), Lib.hid ((Blk.new _ _ _).alloc _)⟩
 case round =>
  obtain ⟨k, m, v, xs, LS, rfl, rfl, hkm, hmL, hgk, HK, HN, HZ⟩ := hrel
  by_cases hlt : k < m
  ·obtain ⟨g1, c1, rfl, hg1⟩ := own_form LS.out.own (by omega)
   obtain ⟨p, x, o, hLk, hT, hx0, hx1, hrp⟩ := LS.out.row k hlt
   obtain ⟨un', tn', sz', n', pn', py', pa', pb', rfl, hn', ho', hpb'⟩ := hT
   have f0 := own_cell LS.out.own hx0
   have f1 := own_cell LS.out.own hx1
   rw [Nat.mul_comm] at f0 f1
   obtain ⟨pv, pxs, pc, hblk, hown, hrow, hrep⟩ := hrp.comp_inv
   obtain ⟨sa, scap, rfl⟩ := own_slice hown
   have hbw := hblk.old LS.out.old
   obtain ⟨_, _, _, _, _, c5⟩ := hbw.six
   have hpl := hbw.lt
   have HS0 : Hid (k = 0 → n' = n ∧ pn' = pn ∧ py' = py ∧ pa' = pa ∧ o = 0) := by
    refine Lib.hid fun hk0 => ?_
    subst hk0
    rw [HL0.out] at hLk
    simp only [Option.some.injEq, Prod.mk.injEq, Ty.comp.injEq] at hLk
    obtain ⟨⟨-, -, -, e1, e2, e3, e4, -⟩, e5⟩ := hLk
    exact ⟨e1.symm, e2.symm, e3.symm, e4.symm, e5.symm⟩
   have HAN : Hid (1 ≤ k → ∀ j, j < n' → (pn' j).size ≠ 0) := by
    refine Lib.hid fun hk1 j hj h0 => ?_
    rw [HLL.out, show k = (k - 1) + 1 by omega, List.getElem?_cons_succ] at hLk
    obtain ⟨i, hi, hz, e⟩ := anonU_mem (List.mem_of_getElem? hLk)
    obtain ⟨_, _, _, _, _, _, _, _, ei, _, hnm'⟩ := HSH.out i hi hz
    rw [ei] at e
    simp only [Prod.mk.injEq, Ty.comp.injEq] at e
    obtain ⟨⟨-, -, -, e1, e2, -⟩, -⟩ := e
    subst e1 e2
    exact absurd h0 (hnm' j hj).1
   have HO := Lib.hid hown
   have HRW := Lib.hid hrow
   have HRP := Lib.hid hrep
   have HLK := Lib.hid hLk
   have HPB' := Lib.hid hpb'
   have HPL := Lib.hid hrp.lt
   have HC5 := Lib.hid (hblk.cell 5)
   simp only [List.getElem?_toArray, List.getElem?_cons_succ, List.getElem?_cons_zero] at HC5
   clear hown hrow hrep hLk hpb' hblk hbw hrp
   go_wp2_with fail
   obtain ⟨xb, hxb⟩ : ∃ xb, xb = wr.heap.size := ⟨_, rfl⟩
   rw [← hxb]
   go_loopg [7, 31] n' (fun gj s7 s31 wx => ∃ (j m' : Nat) (v' : Value) (xs' : List Value), Hid (Lst wA D LL (wA.heap.size + 1) m' v' xs' wx) ∧ v' = s7 ∧ s31 = .int .i64 (j : Int) ∧ j ≤ n' ∧ n' - j ≤ gj ∧ m' ≤ LL.length ∧ Hid (k = 0 → m' = 1 + (anonU pn py pa j 0).length) ∧ Hid (1 ≤ k → m' = LL.length) ∧
    Hid (∀ i, i < j → pn' i ≠ nm) ∧ Hid (Blk wx xb #[.pointer (some ⟨p, 0, none⟩), .int .i64 (o : Nat)] 93 ∧ v'.ownBlock ≠ some xb) ∧ Hid (Blk wx wA.heap.size #[.string ⟨#[]⟩, .pointer none, .int .i64 0, .int .i64 0, .int .i64 0] 56))
   case atStart =>
    refine ⟨0, m, _, xs, Lib.hid (LS.out.below ((Below.refl _ _).alloc (Nat.le_refl _) _)), rfl, rfl, Nat.zero_le _, Nat.le_refl _, hmL, Lib.hid fun h => ?_, Lib.hid fun h => ?_, Lib.hid (fun i h => absurd h (Nat.not_lt_zero i)), Lib.hid (by rw [hxb]; exact ⟨Blk.new _ _ _, fun e => by have := (LS.out.own.lt _ e).2; omega⟩), Lib.hid (HZ.out.alloc _)⟩
    ·rcases HK.out with h1 | h1
     ·rw [anonU_zero]; exact h1.2
     ·omega
    ·rcases HK.out with h1 | h1
     ·omega
     ·exact h1.2
   case round =>
    clear f0 f1 hx0 hx1 hxb
    obtain ⟨j, m', v', xs', LS', rfl, rfl, hj, hgj, hm', HK0, HK1, HD, HX, HZ'⟩ := hrel
    by_cases hlj : j < n'
    ·obtain ⟨g2, c2, e2, -⟩ := own_form HO.out (by omega)
     simp only [Value.slice.injEq] at e2
     obtain ⟨rfl, -, rfl⟩ := e2
     have HOw := CellsKept.own (CellsKept.below LS'.out.old) HO.out
     obtain ⟨q0, q1, q2, q3, q4⟩ := row_cells HOw (HRW.out j hlj)
     have lg := (HOw.lt g2 rfl).2
     clear HOw
     have u0 := HX.out.1.cell 0
     have u1 := HX.out.1.cell 1
     have xl := HX.out.1.lt
     simp only [List.getElem?_toArray, List.getElem?_cons_succ, List.getElem?_cons_zero] at u0 u1
     by_cases hname : pn' j = nm
     ·rw [hname] at q0
      obtain ⟨z0, z1, z2, z3, z4⟩ := HZ'.out.five
      have y0 := HZ'.out.free 0
      have y1 := HZ'.out.free 1
      have y2 := HZ'.out.free 2
      have y3 := HZ'.out.free 3
      have y4 := HZ'.out.free 4
      have zl := HZ'.out.lt
      have hb1 : (pa' j : Int) ≤ 200000 := by have := (HPB'.out j hlj).1; omega
      have hlast : ((j : Int) == (n' : Int) - 1) = (j + 1 == n') := by
       by_cases h : j + 1 = n'
       ·subst h; simp
       ·have h2 : ¬ (j : Int) = (n' : Int) - 1 := by omega
        rw [beq_eq_false_iff_ne.2 h, beq_eq_false_iff_ne.2 h2]
      have HFS : Hid (LL.findSome? (hit nm) = some ⟨py' j, pa' j + o, pb' j, j + 1 == n'⟩) := Lib.hid (findSome_at _ LL k HN.out (by rw [HLK.out]; simp only [Option.bind_some, hit, direct_some hlj hname HD.out, Option.map_some]))
      have Hlast := Lib.hid hlast
      clear hname hlast
      have hne2 : xb ≠ wA.heap.size := fun e => by
       have h1 := HX.out.1
       rw [e] at h1
       have h2 := h1.symm.trans HZ'.out
       simp at h2
      have hpA := (show p < wA.heap.size from HPL.out)
      have hpw : p < wr.heap.size := Nat.lt_of_lt_of_le hpA LS'.out.old.size
      have HLS := LS'
      have c5r := (LS'.out.old.cell (p := ⟨p, 5, none⟩) hpA).trans HC5.out
      go_upto_region 11 with fail
      obtain ⟨pk, hpk⟩ : ∃ pk, pk = wr.heap.size := ⟨_, rfl⟩
      rw [← hpk]
      obtain ⟨wc, hwc⟩ : ∃ wc, wc = wr.alloc (.cells #[.string nm, .pointer (some ⟨pc j, 0, none⟩), .int .i64 ((pa' j : Int) + o), .int .i64 (pb' j : Nat), .int .i64 0] 56) := ⟨_, rfl⟩
      rw [← hwc]
      have hbc : Below wr.heap.size wr wc := by rw [hwc]; exact (Below.refl _ _).alloc (Nat.le_refl _) _
      have hpb : Blk wc pk #[.string nm, .pointer (some ⟨pc j, 0, none⟩), .int .i64 ((pa' j : Int) + o), .int .i64 (pb' j : Nat), .int .i64 0] 56 := by rw [hwc, hpk]; exact Blk.new _ _ _
      have u0c := (HX.out.1.old hbc).cell 0
      have c5c := (hbc.cell (p := ⟨p, 5, none⟩) hpw).trans c5r
      have hne1 : pk ≠ wA.heap.size := by omega
      have hne3 : p ≠ wA.heap.size := by omega
      have HZC := Lib.hid (HZ'.out.old hbc)
      have HBC : Hid (Below wA.heap.size wA wc) := Lib.hid (LS'.out.old.trans (hbc.mono LS'.out.old.size))
      have xlc := Nat.lt_of_lt_of_le xl hbc.size
      have plc := Nat.lt_of_lt_of_le hpw hbc.size
      simp only [List.getElem?_toArray, List.getElem?_cons_succ, List.getElem?_cons_zero] at u0c
      clear q0 q1 q2 q3 q4 u0 u1 z0 z1 z2 z3 z4 y0 y1 y2 y3 y4 zl hwc hpk hbc c5r xl hpw
      obtain ⟨p0, p1, p2, p3, p4⟩ := hpb.five
      have pl := hpb.lt
      have y0 := HZC.out.free 0
      have y1 := HZC.out.free 1
      have y2 := HZC.out.free 2
      have y3 := HZC.out.free 3
      have y4 := HZC.out.free 4
      obtain ⟨z0, z1, z2, z3, z4⟩ := HZC.out.five
      have zl := HZC.out.lt
      have hwn : IntKind.i64.wrap ((n' : Int) - 1) = n' - 1 := IntWalk.i64_in _ (by omega)
      have far1 : ∀ (w : World) (i : Nat) (v : Value) (x : Nat), (w.setCell ⟨wA.heap.size, i, none⟩ v).cell? ⟨pk, x, none⟩ = w.cell? ⟨pk, x, none⟩ := fun _ _ _ _ => World.cell?_setCell_far _ _ _ _ (Ne.symm hne1)
      have far2 : ∀ (w : World) (i : Nat) (v : Value) (x : Nat), (w.setCell ⟨wA.heap.size, i, none⟩ v).cell? ⟨xb, x, none⟩ = w.cell? ⟨xb, x, none⟩ := fun _ _ _ _ => World.cell?_setCell_far _ _ _ _ (Ne.symm hne2)
      have far3 : ∀ (w : World) (i : Nat) (v : Value) (x : Nat), (w.setCell ⟨wA.heap.size, i, none⟩ v).cell? ⟨p, x, none⟩ = w.cell? ⟨p, x, none⟩ := fun _ _ _ _ => World.cell?_setCell_far _ _ _ _ (Ne.symm hne3)
      go_region_held3 (fun w' => w'.cell? ⟨pk, 0, none⟩ = some (.string nm) ∧ w'.cell? ⟨pk, 1, none⟩ = some (.pointer (some ⟨pc j, 0, none⟩)) ∧ w'.cell? ⟨pk, 2, none⟩ = some (.int .i64 ((pa' j : Int) + o)) ∧ w'.cell? ⟨pk, 3, none⟩ = some (.int .i64 (pb' j : Nat)) ∧ w'.cell? ⟨pk, 4, none⟩ = some (.int .i64 0) ∧ w'.cell? ⟨xb, 0, none⟩ = some (.pointer (some ⟨p, 0, none⟩)) ∧ w'.cell? ⟨p, 5, none⟩ = some (.slice (some ⟨g2, 0, none⟩) n' scap))
       (simp only [World.cell?_drew, far1, far2, far3, p0, p1, p2, p3, p4, u0c, c5c, and_self]) (first | fail)
      go_wp2_with fail
      refine bodyPost_ret (v := .tuple #[.agg #[.string nm, .pointer (some ⟨pc j, 0, none⟩), .int .i64 ((pa' j : Int) + o), .int .i64 (pb' j : Nat), .int .i64 0], .bool ((j : Int) == (n' : Int) - 1), .bool true]) ?_ rfl ⟨?_, ?_⟩
      ·rw [results_ctt rfl]
       go_simp
      ·rw [HFS.out, Hlast.out]
       exact ⟨pc j, by simp only [Int.natCast_add], HRP.out j hlj⟩
      ·exact (below5 HBC.out (Nat.le_refl _) _ _ _ _ _).drew
     ·have x1 := name_ne hname
      have HNE := Lib.hid hname
      clear hname
      by_cases h0 : (pn' j).size = 0
      ·have x2 := name_nil h0
       have H0 := Lib.hid h0
       clear h0
       have hk0 : k = 0 := by
        rcases Nat.eq_zero_or_pos k with h | h
        ·exact h
        ·exact absurd H0.out (HAN.out h j hlj)
       subst hk0
       obtain ⟨rfl, rfl, rfl, rfl, rfl⟩ := HS0.out rfl
       have HM0 := Lib.hid (HK0.out rfl)
       clear HK0 HK1 HS0 HAN
       obtain ⟨un2, nm2, sz2, n2, pn2, py2, pa2, pb2, hpy, hn2, hin⟩ := HSH.out j hlj H0.out
       have hrj := HRP.out j hlj
       rw [hpy] at hrj
       have HLD := Lib.hid (Leads.comp hrj)
       have hrl := hrj.lt
       go_wp2_with fail
       obtain ⟨pk, hpk⟩ : ∃ pk, pk = wr.heap.size := ⟨_, rfl⟩
       rw [← hpk]
       obtain ⟨wc, hwc⟩ : ∃ wc, wc = wr.alloc (.cells #[.string (pn' j), .pointer (some ⟨pc j, 0, none⟩), .int .i64 (pa' j : Nat), .int .i64 (pb' j : Nat), .int .i64 0] 56) := ⟨_, rfl⟩
       rw [← hwc]
       have hbc : Below wr.heap.size wr wc := by rw [hwc]; exact (Below.refl _ _).alloc (Nat.le_refl _) _
       have hpb : Blk wc pk #[.string (pn' j), .pointer (some ⟨pc j, 0, none⟩), .int .i64 (pa' j : Nat), .int .i64 (pb' j : Nat), .int .i64 0] 56 := by rw [hwc, hpk]; exact Blk.new _ _ _
       have LC := Lib.hid (LS'.out.below hbc)
       have HXC : Hid (Blk wc xb #[.pointer (some ⟨p, 0, none⟩), .int .i64 0] 93) := Lib.hid (HX.out.1.old hbc)
       have HZC := Lib.hid (HZ'.out.old hbc)
       have hgp : ∀ g, v'.ownBlock = some g → g ≠ pk := fun g hg => by have := (LS'.out.own.lt g hg).2; omega
       have HGP := Lib.hid hgp
       have HGX := Lib.hid HX.out.2
       clear hgp q0 q1 q2 q3 q4 lg u0 u1 xl hwc hpk hbc HX HZ' LS'
       obtain ⟨-, p1, p2, -, -⟩ := hpb.five
       have u1 := HXC.out.cell 1
       have xl := HXC.out.lt
       have pl := hpb.lt
       simp only [List.getElem?_toArray, List.getElem?_cons_succ, List.getElem?_cons_zero] at u1
       have hld : Leads wc.drew D (pc j) (.comp un2 nm2 sz2 n2 pn2 py2 pa2 pb2) (pc j) := HLD.out.old (LC.out.old.drew)
       have HLDD := Lib.hid hld
       have hk63 : m' + 1 ≤ maxLen := by unfold maxLen; omega
       have hbase : wA.heap.size + 1 ≤ wc.heap.size := by have := HZC.out.lt; omega
       have pown := LC.out.own
       have hwr : IntKind.i64.wrap ((pa' j : Nat) : Int) = pa' j := IntWalk.i64_in _ (by have := (HPB'.out j hlj).1; omega)
       clear hld
       go_region_held3 (fun w' => w'.cell? ⟨pk, 1, none⟩ = some (.pointer (some ⟨pc j, 0, none⟩)) ∧ w'.cell? ⟨pk, 2, none⟩ = some (.int .i64 (pa' j : Nat)) ∧ w'.cell? ⟨xb, 1, none⟩ = some (.int .i64 0))
        (first | go_keep | exact qA)
        (first
         | (go_at_call 13; refine (leads_calls HLDD.out).mono ?_; rintro e w8 ⟨rfl, rfl⟩)
         | (refine step_app elemInner (.tmp 59) (.tmp 69) rfl rfl (wA.heap.size + 1) _ m' xs' rfl (by first | exact pown | exact pown.alloc _) wc.heap.size 1 1 #[.pointer (some ⟨pc j, 0, none⟩), .int .i64 (pa' j : Nat)] rfl (by first | exact Blk.new _ _ _ | exact (Blk.new _ _ _).drew) rfl rfl (by decide) ?_ (by omega) hk63 (by first | exact hbase | (simp; omega)); intro g cap' w4 ha; have hb4 : ∀ x, x < wc.heap.size → v'.ownBlock ≠ some x → w4.heap[x]? = wc.heap[x]? := (fun x hx hne => (ha.2.1.block x (by simp; omega) (fun e => hne e.symm)).trans (Below.heap_alloc wc _ x hx)); have qA := And.intro ((World.cell?_of_block (hb4 pk pl (fun e => HGP.out _ e rfl))).trans p1) (And.intro ((World.cell?_of_block (hb4 pk pl (fun e => HGP.out _ e rfl))).trans p2) ((World.cell?_of_block (hb4 xb xl HGX.out)).trans u1))))
       have LP := Lib.hid (Lst.push ((LC.out.below ((Below.refl _ _).alloc (Nat.le_refl _) _)).below (Below.refl _ _).drew) ha (x := py' j) (o := pa' j) (by
        rw [HLL.out, HM0.out, Nat.add_comm, List.getElem?_cons_succ, anonU_at hlj H0.out, Nat.zero_add]) (by rw [hpy]; exact ⟨un2, nm2, sz2, n2, pn2, py2, pa2, pb2, rfl, hn2, (HPB'.out j hlj).1, fun i hi => (hin i hi).2⟩) (HRP.out j hlj))
       have HX4 : Hid (Blk w4 xb #[.pointer (some ⟨p, 0, none⟩), .int .i64 ((0 : Nat) : Int)] 93 ∧ (Value.slice (some ⟨g, 0, none⟩) (m' + 1) cap').ownBlock ≠ some xb) := Lib.hid ⟨HXC.out.of_eq (hb4 xb xl HGX.out), fun e => by
        have e2 : g = xb := by simpa [Value.ownBlock] using e
        rcases ha.2.2.1 with h | h
        ·exact HGX.out (Eq.trans h (congrArg some e2))
        ·have h2 : (wc.alloc (.cells #[.pointer (some ⟨pc j, 0, none⟩), .int .i64 (pa' j : Nat)] 93)).drew.heap.size = wc.heap.size + 1 := by simp
         rw [h2] at h
         omega⟩
       have HZ4 := Lib.hid (HZC.out.of_eq (hb4 wA.heap.size HZC.out.lt (fun e => by have := (pown.lt _ e).1; omega)))
       clear ha hb4 qA p1 p2 u1 xl pl pown hbase
       go_wp2_with fail
       go_roundg (n' - (j + 1))
       case measure => omega
       case rel => exact ⟨j + 1, m' + 1, _, _, LP, rfl, by go_num, hlj, Nat.le_refl _, by
        have e := (List.getElem?_eq_some_iff.1 (show LL[m']? = some (py' j, pa' j) by rw [HLL.out, HM0.out, Nat.add_comm, List.getElem?_cons_succ, anonU_at hlj H0.out, Nat.zero_add])).1
        exact e, Lib.hid (fun _ => by rw [anonU_anon H0.out, HM0.out, List.length_append]; rfl), Lib.hid (fun h => by omega), Lib.hid (fun i hi => (Nat.lt_succ_iff_lt_or_eq.1 hi).elim (HD.out i) (fun e => by rw [e]; exact HNE.out)), HX4, HZ4⟩
      ·have x2 := name_full2 h0
       have H0 := Lib.hid h0
       clear h0
       go_wp2_with fail
       go_roundg (n' - (j + 1))
       case measure => omega
       case rel => exact ⟨j + 1, m', _, xs', Lib.hid (LS'.out.below ((Below.refl _ _).alloc (Nat.le_refl _) _)), rfl, by go_num, hlj, Nat.le_refl _, hm', Lib.hid (fun h => by
        rw [HK0.out h, anonU_named (by rw [← (HS0.out h).2.1]; exact H0.out)]), HK1, Lib.hid (fun i hi => (Nat.lt_succ_iff_lt_or_eq.1 hi).elim (HD.out i) (fun e => by rw [e]; exact HNE.out)), Lib.hid ⟨HX.out.1.alloc _, HX.out.2⟩, Lib.hid (HZ'.out.alloc _)⟩
    ·obtain rfl : j = n' := by omega
     have hhit : hit nm (.comp un' tn' sz' j pn' py' pa' pb', o) = none := by simp only [hit, direct_none HD.out, Option.map_none]
     have HN1 : Hid (∀ k', k' < k + 1 → ∀ p, LL[k']? = some p → hit nm p = none) := Lib.hid fun k' hk' p' hp' => by
      by_cases h : k' < k
      ·exact HN.out k' h p' hp'
      ·obtain rfl : k' = k := by omega
       rw [HLK.out] at hp'
       rw [← Option.some.inj hp']
       exact hhit
     have HM1 : Hid (m' = LL.length) := Lib.hid (by
      rcases Nat.eq_zero_or_pos k with h | h
      ·rw [HK0.out h, (HS0.out h).1, HLL.out, List.length_cons, Nat.add_comm]
      ·exact HK1.out h)
     clear hhit
     go_wp2_with fail
     go_roundg (LL.length - (k + 1))
     case measure => omega
     case rel => exact ⟨k + 1, m', _, xs', LS', rfl, by go_num, by rw [HM1.out]; omega, hm', Nat.le_refl _, Lib.hid (.inr ⟨Nat.succ_pos _, HM1.out⟩), HN1, HZ'⟩
  ·obtain rfl : k = m := by omega
   obtain ⟨va, vcap, rfl⟩ := own_slice LS.out.own
   obtain ⟨z0, z1, z2, z3, z4⟩ := HZ.out.five
   have y0 := HZ.out.free 0
   have y1 := HZ.out.free 1
   have y2 := HZ.out.free 2
   have y3 := HZ.out.free 3
   have y4 := HZ.out.free 4
   have zl := HZ.out.lt
   have HFS : Hid (LL.findSome? (hit nm) = none) := Lib.hid (findSome_no _ LL fun k' hk' p' hp' => HN.out k' (by rcases HK.out with h | h <;> omega) p' hp')
   go_wp2_with fail
   refine bodyPost_ret (v := .tuple #[.agg #[.string ⟨#[]⟩, .pointer none, .int .i64 0, .int .i64 0, .int .i64 0], .bool false, .bool false]) ?_ rfl ⟨?_, ?_⟩
   ·rw [results_ctt rfl]
    go_simp
   ·rw [HFS.out]; rfl
   ·exact below5 LS.out.old (Nat.le_refl _) _ _ _ _ _
structure FS where
 a : Ty
 ao : Nat
 ab : Nat
 af : Nat
 b : Ty
 bo : Nat
 bb : Nat
 bf : Nat
inductive Out where
 | found
 | poison
 | wrong
def load (y : Ty) (p : Nat) : Nat := p / 8 / al y * al y
def stepF (s : FS) (i : Nat) (last : Bool) : FS × Option Out := match s.a with
 | .comp _ _ _ n pn py pa pb =>
  if n ≤ i then (s, some .wrong)
  else if (pn i).size = 0 then (⟨py i, s.ao + pa i / 8, 0, 0, s.b, s.bo, s.bb, s.bf⟩, none)
  else match s.b with
   | .comp .. => match findP (pn i) s.b with
    | none => (s, some .poison)
    | some h =>
     if pb i = 0 ∧ h.bits = 0 then (⟨py i, s.ao + pa i / 8, 0, 0, h.y, s.bo + h.at_ / 8, 0, 0⟩, if cmpF (py i) h.y then none else some .poison)
     else if last = false then (s, some .wrong)
     else if al (py i) = 0 ∨ al h.y = 0 then (s, some .wrong)
     else (⟨py i, s.ao + load (py i) (pa i), pb i, pa i - 8 * load (py i) (pa i), h.y, s.bo + load h.y h.at_, h.bits, h.at_ - 8 * load h.y h.at_⟩, if cmpF (py i) h.y then none else some .poison)
   | _ => (s, some .poison)
 | .arr m u => match s.b with
  | .arr m' u' =>
   if m ≤ i then (s, some .wrong)
   else if m' ≤ i then (s, some .poison)
   else (⟨u, s.ao + i * u.bytes, 0, 0, u', s.bo + i * u'.bytes, 0, 0⟩, if cmpF u u' then none else some .poison)
  | _ => (s, some .poison)
 | _ => (s, some .wrong)
def fieldGo : List Nat → FS → FS × Out
 | [], s => (s, .found)
 | i :: rest, s => match stepF s i rest.isEmpty with
  | (s', some o) => (s', o)
  | (s', none) => fieldGo rest s'
def Pt (y : Ty) (a b : Nat) : Prop := b ≤ 64 ∧ (b = 0 → a % (8 * max 1 (al y)) = 0) ∧ (b ≠ 0 → ∃ sz sg nm, y = .int sz sg nm ∧ b ≤ 8 * sz ∧ a % (8 * sz) + b ≤ 8 * sz)
inductive FOk : Ty → Prop
 | leaf {t : Ty} (h : Leaf t) : FOk t
 | comp {un : Bool} {nm : ByteArray} {sz n : Nat} {pn : Nat → ByteArray} {py : Nat → Ty} {pa pb : Nat → Nat} (hs : sz ≤ 200000) (hn : n ≤ 20) (hp : ∀ i, i < n → pa i ≤ 200000 ∧ Pt (py i) (pa i) (pb i)) (hy : ∀ i, i < n → FOk (py i))
   (ha : ∀ i, i < n → (pn i).size = 0 → pb i = 0 ∧ pa i % 64 = 0 ∧ ∃ un' nm' sz' n' pn' py' pa' pb', py i = .comp un' nm' sz' n' pn' py' pa' pb' ∧ ∀ j, j < n' → (pn' j).size ≠ 0) : FOk (.comp un nm sz n pn py pa pb)
theorem FOk.parts {un : Bool} {nm : ByteArray} {sz n : Nat} {pn : Nat → ByteArray} {py : Nat → Ty} {pa pb : Nat → Nat} (h : FOk (.comp un nm sz n pn py pa pb)) : sz ≤ 200000 ∧ n ≤ 20 ∧ (∀ i, i < n → pa i ≤ 200000 ∧ Pt (py i) (pa i) (pb i)) ∧ (∀ i, i < n → FOk (py i)) ∧
  ∀ i, i < n → (pn i).size = 0 → pb i = 0 ∧ pa i % 64 = 0 ∧ ∃ un' nm' sz' n' pn' py' pa' pb', py i = .comp un' nm' sz' n' pn' py' pa' pb' ∧ ∀ j, j < n' → (pn' j).size ≠ 0 := by
 cases h with
 | leaf h => cases h with
  | int h => obtain ⟨_, _, _, e, _⟩ := h; cases e
  | enm h => obtain ⟨_, _, _, _, _, e, _⟩ := h; cases e
 | comp hs hn hp hy ha => exact ⟨hs, hn, hp, hy, ha⟩
theorem FOk.shp {un : Bool} {nm : ByteArray} {sz n : Nat} {pn : Nat → ByteArray} {py : Nat → Ty} {pa pb : Nat → Nat} (h : FOk (.comp un nm sz n pn py pa pb)) : Shp (.comp un nm sz n pn py pa pb) := by
 obtain ⟨hs, hn, hp, hy, ha⟩ := h.parts
 refine ⟨un, nm, sz, n, pn, py, pa, pb, rfl, hn, fun i hi => ⟨(hp i hi).1, (hp i hi).2.1⟩, fun i hi h0 => ?_⟩
 obtain ⟨_, _, un', nm', sz', n', pn', py', pa', pb', e, h⟩ := ha i hi h0
 have hi' := hy i hi
 rw [e] at hi'
 obtain ⟨_, hn', hp', _, _⟩ := hi'.parts
 exact ⟨un', nm', sz', n', pn', py', pa', pb', e, hn', fun j hj => ⟨h j hj, (hp' j hj).1, (hp' j hj).2.1⟩⟩
theorem IntT.al {t : Ty} (h : IntT t) : al t = 1 ∨ al t = 2 ∨ al t = 4 ∨ al t = 8 := by
 obtain ⟨sz, sg, nm, rfl, h, _⟩ := h
 exact h
theorem FOk.al {t : Ty} (h : FOk t) : al t = 0 ∨ al t = 1 ∨ al t = 2 ∨ al t = 4 ∨ al t = 8 := by
 cases h with
 | leaf h => cases h with
  | int h => exact .inr h.al
  | ptr h => exact .inl rfl
  | enm h => obtain ⟨_, _, _, _, _, rfl, _⟩ := h; exact .inr (.inr (.inr (.inl rfl)))
  | arr h _ _ => exact .inr h.al
  | named h _ => exact .inr h.al
  | cst h => exact .inr h.al
 | comp => exact .inl rfl
theorem FOk.arr {m : Nat} {u : Ty} (h : FOk (.arr m u)) : IntT u ∧ 1 ≤ m ∧ m ≤ 6 := by
 cases h with
 | leaf h => cases h with
  | int h => obtain ⟨_, _, _, e, _⟩ := h; cases e
  | enm h => obtain ⟨_, _, _, _, _, e, _⟩ := h; cases e
  | arr h h1 h2 => exact ⟨h, h1, h2⟩
theorem FOk.flat {t : Ty} (h : FOk t) : t.bytes ≤ 200000 ∧ Flat t := by
 cases h with
 | leaf h => have := h.facts; exact ⟨by omega, this.2.2⟩
 | comp hs _ _ _ _ => exact ⟨hs, fun _ _ e => by cases e⟩
theorem Pt.shift {y : Ty} {a b o : Nat} (hy : FOk y) (h : Pt y a b) (ho : o % 64 = 0) : Pt y (a + o) b := by
 obtain ⟨h1, h2, h3⟩ := h
 refine ⟨h1, fun hb => ?_, fun hb => ?_⟩
 ·have := h2 hb
  rcases hy.al with e | e | e | e | e <;> rw [e] at this ⊢ <;> simp only [show max 1 0 = 1 from rfl, show max 1 1 = 1 from rfl, show max 1 2 = 2 from rfl, show max 1 4 = 4 from rfl, show max 1 8 = 8 from rfl] at this ⊢ <;> omega
 ·obtain ⟨sz, sg, nm, rfl, h4, h5⟩ := h3 hb
  refine ⟨sz, sg, nm, rfl, h4, ?_⟩
  rcases hy.al with e | e | e | e | e <;> simp only [Go.Proofs.YtfilbgmbmlmdbaaGreatDoor.al] at e <;> subst e <;> omega
theorem direct_lt {n i : Nat} {pn : Nat → ByteArray} {nm : ByteArray} (h : direct n pn nm = some i) : i < n := List.mem_range.1 (List.mem_of_find?_eq_some h)
theorem hit_ok {x : Ty} {o : Nat} {nm : ByteArray} {h : Hit} (hx : FOk x) (ho : o % 64 = 0) (hol : o ≤ 200000) (e : hit nm (x, o) = some h) : FOk h.y ∧ Pt h.y h.at_ h.bits ∧ h.at_ ≤ 400000 := by
 cases x with
 | comp un tn sz n pn py pa pb =>
  simp only [hit, Option.map_eq_some_iff] at e
  obtain ⟨i, hi, rfl⟩ := e
  have hl := direct_lt hi
  obtain ⟨_, _, hp, hy, _⟩ := hx.parts
  have := (hp i hl).1
  exact ⟨hy i hl, (hp i hl).2.shift (hy i hl) ho, by show pa i + o ≤ 400000; omega⟩
 | _ => cases e
theorem findP_ok {t : Ty} {nm : ByteArray} {h : Hit} (ht : FOk t) (e : findP nm t = some h) : FOk h.y ∧ Pt h.y h.at_ h.bits ∧ h.at_ ≤ 400000 := by
 cases t with
 | comp un tn sz n pn py pa pb =>
  obtain ⟨p, hp, he⟩ := List.exists_of_findSome?_eq_some (show ((Ty.comp un tn sz n pn py pa pb, 0) :: anonU pn py pa n 0).findSome? (hit nm) = some h from e)
  obtain ⟨_, _, hpp, hy, ha⟩ := ht.parts
  rcases List.mem_cons.1 hp with rfl | hm
  ·exact hit_ok ht rfl (by omega) he
  ·obtain ⟨i, hi, h0, rfl⟩ := anonU_mem hm
   exact hit_ok (hy i hi) (by have := (ha i hi h0).2.1; omega) (by have := (hpp i hi).1; omega) he
 | _ => cases e
def isC (t : Ty) : Bool := t.kind == 4 || t.kind == 5
theorem cmpF_ne {t u : Ty} (h : t.behind.kind ≠ u.behind.kind) (hc : (isC t.behind && isC u.behind) = false) : cmpF t u = false := by
 unfold cmpF
 generalize t.behind = a at h hc ⊢
 generalize u.behind = b at h hc ⊢
 cases a with
 | comp un => cases b with
  | comp un' => cases un <;> cases un' <;> cases hc
  | _ => rfl
 | _ => cases b <;> first | rfl | exact absurd rfl h
theorem cmpF_comp {t u : Ty} (hc : (isC t.behind && isC u.behind) = true) : cmpF t u = true := by
 unfold cmpF
 generalize t.behind = a at hc ⊢
 generalize u.behind = b at hc ⊢
 cases a with
 | comp un => cases b with
  | comp un' => rfl
  | _ => cases un <;> cases hc
 | _ => cases hc
theorem composite_at {w : World} {b : Nat} {K : Int} (h : w.cell? ⟨b, 0, none⟩ = some (.int .i64 K)) : Calls Tryz.prog 26 #[.pointer (some ⟨b, 0, none⟩)] w fun e w' => e = .returned (.bool (K == 4 || K == 5)) ∧ w' = w := by
 have lb := World.block_lt_of_cell? w _ h
 simp only at lb
 by_cases h4 : K = 4
 ·subst h4
  go_enter Tryz.func26, Tryz.ntmps26
  go_wp2_with fail
  go_ret
  exact ⟨rfl, rfl⟩
 ·by_cases h5 : K = 5
  ·subst h5
   go_enter Tryz.func26, Tryz.ntmps26
   go_wp2_with fail
   go_ret
   exact ⟨rfl, rfl⟩
  ·have e4 : (K == 4) = false := by simpa using h4
   have e5 : (K == 5) = false := by simpa using h5
   clear h4 h5
   go_enter Tryz.func26, Tryz.ntmps26
   go_wp2_with fail
   go_ret
   exact ⟨by rw [e4, e5]; rfl, rfl⟩
theorem isC_kind (t : Ty) : (((t.kind : Nat) : Int) == 4 || ((t.kind : Nat) : Int) == 5) = isC t := by
 unfold isC
 rw [show (4 : Int) = ((4 : Nat) : Int) from rfl, show (5 : Int) = ((5 : Nat) : Int) from rfl, cast_beq, cast_beq]
theorem composite_any {w : World} {D : Nat → Prop} {b : Nat} {t : Ty} (r : Rep w D b t) : Calls Tryz.prog 26 #[.pointer (some ⟨b, 0, none⟩)] w fun e w' => e = .returned (.bool (isC t)) ∧ w' = w := by
 have := composite_at r.kindCell
 rw [isC_kind] at this
 exact this
theorem align_at {w : World} {b b' : Nat} {K z : Int} (hB : Calls Tryz.prog 13 #[.pointer (some ⟨b, 0, none⟩)] w fun e w' => e = .returned (.pointer (some ⟨b', 0, none⟩)) ∧ w' = w)
  (h0 : w.cell? ⟨b', 0, none⟩ = some (.int .i64 K)) (h2 : w.cell? ⟨b', 2, none⟩ = some (.int .i64 z)) (h3 : K ≠ 3) : Calls Tryz.prog 28 #[.pointer (some ⟨b, 0, none⟩)] w fun e w' => e = .returned (.int .i64 (if K == 1 || K == 6 then z else 0)) ∧ w' = w := by
 have lb := World.block_lt_of_cell? w _ h0
 simp only at lb
 have HB := Lib.hid hB
 clear hB
 have e3 : (K == 3) = false := by simpa using h3
 clear h3
 by_cases h1 : K = 1
 ·subst h1
  go_enter Tryz.func28, Tryz.ntmps28
  go_wp2_with fail
  refine HB.out.mono ?_
  rintro e w9 ⟨rfl, rfl⟩
  go_wp2_with fail
  go_ret
  exact ⟨rfl, rfl⟩
 ·by_cases h6 : K = 6
  ·subst h6
   go_enter Tryz.func28, Tryz.ntmps28
   go_wp2_with fail
   refine HB.out.mono ?_
   rintro e w9 ⟨rfl, rfl⟩
   go_wp2_with fail
   go_ret
   exact ⟨rfl, rfl⟩
  ·have e1 : (K == 1) = false := by simpa using h1
   have e6 : (K == 6) = false := by simpa using h6
   have hz : (if K == 1 || K == 6 then z else 0) = (0 : Int) := by rw [e1, e6]; rfl
   rw [hz]
   clear h1 h6 hz
   go_enter Tryz.func28, Tryz.ntmps28
   go_wp2_with fail
   refine HB.out.mono ?_
   rintro e w9 ⟨rfl, rfl⟩
   go_wp2_with fail
   go_ret
   exact ⟨rfl, rfl⟩
theorem al_behind (t : Ty) : al t.behind = al t := by
 induction t with
 | named nm t ih => exact ih
 | cst t ih => exact ih
 | _ => rfl
theorem align_arr {w : World} {b b' c : Nat} {z : Int} (hB : Calls Tryz.prog 13 #[.pointer (some ⟨b, 0, none⟩)] w fun e w' => e = .returned (.pointer (some ⟨b', 0, none⟩)) ∧ w' = w)
  (h0 : w.cell? ⟨b', 0, none⟩ = some (.int .i64 3)) (h4 : w.cell? ⟨b', 4, none⟩ = some (.pointer (some ⟨c, 0, none⟩))) (hc : Calls Tryz.prog 28 #[.pointer (some ⟨c, 0, none⟩)] w fun e w' => e = .returned (.int .i64 z) ∧ w' = w) :
  Calls Tryz.prog 28 #[.pointer (some ⟨b, 0, none⟩)] w fun e w' => e = .returned (.int .i64 z) ∧ w' = w := by
 have lb := World.block_lt_of_cell? w _ h0
 simp only at lb
 have HB := Lib.hid hB
 have HC := Lib.hid hc
 clear hB hc
 go_enter Tryz.func28, Tryz.ntmps28
 go_wp2_with fail
 refine HB.out.mono ?_
 rintro e w9 ⟨rfl, rfl⟩
 go_wp2_with fail
 refine HC.out.mono ?_
 rintro e w9 ⟨rfl, rfl⟩
 go_wp2_with fail
 go_ret
 exact ⟨rfl, rfl⟩
theorem align_any {w : World} {D : Nat → Prop} : ∀ (N : Nat) {b : Nat} {t : Ty}, t.cnt ≤ N → Rep w D b t → Calls Tryz.prog 28 #[.pointer (some ⟨b, 0, none⟩)] w fun e w' => e = .returned (.int .i64 (al t : Nat)) ∧ w' = w := by
 intro N
 induction N with
 | zero => intro b t h; have := Ty.cnt_pos t; omega
 | succ N ih =>
  intro b t hN r
  obtain ⟨b', rb, hB⟩ := behind_at r
  rw [← al_behind]
  have hN' := Nat.le_trans (cnt_behind t) hN
  have kt := behind_kinds t
  clear hN r
  generalize t.behind = t' at rb kt hN' ⊢
  cases rb with
  | int h _ => exact align_at hB (h.cell 0) (h.cell 2) (by decide)
  | ptr h _ _ => exact align_at hB (h.cell 0) (h.cell 2) (by decide)
  | @arr _ _ _ t1 h _ r => exact align_arr (z := (al t1 : Nat)) hB (h.cell 0) (h.cell 4) (ih (by simp only [Ty.cnt] at hN'; omega) r)
  | named => exact absurd rfl kt.1
  | cst => exact absurd rfl kt.2
  | enm h _ _ _ _ => exact align_at hB (h.cell 0) (h.cell 2) (by decide)
  | @comp _ _ _ un _ _ _ _ _ _ _ _ h _ _ _ _ _ => cases un <;> exact align_at hB (h.cell 0) (h.cell 2) (by decide)
theorem compat_leaf {w : World} {b c b' c' : Nat} {K1 K2 : Int} (hB1 : Calls Tryz.prog 13 #[.pointer (some ⟨b, 0, none⟩)] w fun e w' => e = .returned (.pointer (some ⟨b', 0, none⟩)) ∧ w' = w)
  (hB2 : Calls Tryz.prog 13 #[.pointer (some ⟨c, 0, none⟩)] w fun e w' => e = .returned (.pointer (some ⟨c', 0, none⟩)) ∧ w' = w)
  (h1 : w.cell? ⟨b', 0, none⟩ = some (.int .i64 K1)) (h2 : w.cell? ⟨c', 0, none⟩ = some (.int .i64 K2)) (hk : K1 ≠ K2 ∨ ((K1 == 4 || K1 == 5) = true ∧ (K2 == 4 || K2 == 5) = true) ∨ (K1 = K2 ∧ K1 ≠ 3 ∧ K1 ≠ 6)) :
  Calls Tryz.prog 25 #[.pointer (some ⟨b, 0, none⟩), .pointer (some ⟨c, 0, none⟩)] w fun e w' => e = .returned (.bool (((K1 == 4 || K1 == 5) && (K2 == 4 || K2 == 5)) || K1 == K2)) ∧ ∃ nd, w' = w.drewN nd := by
 have lb := World.block_lt_of_cell? w _ h1
 have lc := World.block_lt_of_cell? w _ h2
 simp only at lb lc
 have C1 := Lib.hid (composite_at h1)
 have C2 := Lib.hid (composite_at h2)
 have HB1 := Lib.hid hB1
 have HB2 := Lib.hid hB2
 have HK := Lib.hid hk
 clear hB1 hB2 hk
 obtain ⟨X1, hX1⟩ : ∃ X, (K1 == 4 || K1 == 5) = X := ⟨_, rfl⟩
 obtain ⟨X2, hX2⟩ : ∃ X, (K2 == 4 || K2 == 5) = X := ⟨_, rfl⟩
 rw [hX1] at C1 ⊢
 rw [hX2] at C2 ⊢
 have HX1 := Lib.hid hX1
 have HX2 := Lib.hid hX2
 clear hX1 hX2
 go_enter Tryz.func25, Tryz.ntmps25
 go_wp2_with fail
 refine HB1.out.mono ?_
 rintro e w9 ⟨rfl, rfl⟩
 go_wp2_with fail
 refine HB2.out.mono ?_
 rintro e w9 ⟨rfl, rfl⟩
 go_wp2_with fail
 refine C1.out.mono ?_
 rintro e w9 ⟨rfl, rfl⟩
 cases X1 with
 | true =>
  go_wp2_with fail
  refine C2.out.mono ?_
  rintro e w9 ⟨rfl, rfl⟩
  cases X2 with
  | true =>
   go_wp2_with fail
   go_ret
   exact ⟨rfl, 0, rfl⟩
  | false =>
   have hne : K1 ≠ K2 := fun e => by have := HX1.out; rw [e, HX2.out] at this; cases this
   have hne2 : (K1 != K2) = true := by simpa using hne
   have hne3 : (K1 == K2) = false := by simpa using hne
   clear hne
   go_wp2_with fail
   go_quiet (fail)
   go_wp2_with fail
   go_ret
   exact ⟨by first | rfl | (rw [hne3]; rfl), _, rfl⟩
 | false =>
  by_cases hkk : K1 = K2
  ·subst hkk
   have h3 : (K1 == 3) = false := by
    rcases HK.out with h | ⟨h, _⟩ | ⟨_, h, _⟩
    ·exact absurd rfl h
    ·rw [HX1.out] at h; cases h
    ·simpa using h
   have h6 : (K1 == 6) = false := by
    rcases HK.out with h | ⟨h, _⟩ | ⟨_, _, h⟩
    ·exact absurd rfl h
    ·rw [HX1.out] at h; cases h
    ·simpa using h
   go_wp2_with fail
   go_quiet (fail)
   go_wp2_with fail
   go_ret
   exact ⟨by first | rfl | (rw [beq_self_eq_true]; rfl), _, rfl⟩
  ·have hne2 : (K1 != K2) = true := by simpa using hkk
   have hne3 : (K1 == K2) = false := by simpa using hkk
   clear hkk
   go_wp2_with fail
   go_quiet (fail)
   go_wp2_with fail
   go_ret
   exact ⟨by first | rfl | (rw [hne3]; rfl), _, rfl⟩
theorem compat_arr {w : World} {b c b' c' b2 c2 : Nat} {v : Bool} (hB1 : Calls Tryz.prog 13 #[.pointer (some ⟨b, 0, none⟩)] w fun e w' => e = .returned (.pointer (some ⟨b', 0, none⟩)) ∧ w' = w)
  (hB2 : Calls Tryz.prog 13 #[.pointer (some ⟨c, 0, none⟩)] w fun e w' => e = .returned (.pointer (some ⟨c', 0, none⟩)) ∧ w' = w)
  (h1 : w.cell? ⟨b', 0, none⟩ = some (.int .i64 3)) (h2 : w.cell? ⟨c', 0, none⟩ = some (.int .i64 3)) (h14 : w.cell? ⟨b', 4, none⟩ = some (.pointer (some ⟨b2, 0, none⟩))) (h24 : w.cell? ⟨c', 4, none⟩ = some (.pointer (some ⟨c2, 0, none⟩)))
  (hrec : ∀ n, Calls Tryz.prog 25 #[.pointer (some ⟨b2, 0, none⟩), .pointer (some ⟨c2, 0, none⟩)] (w.drewN n) fun e w' => e = .returned (.bool v) ∧ ∃ nd, w' = (w.drewN n).drewN nd) :
  Calls Tryz.prog 25 #[.pointer (some ⟨b, 0, none⟩), .pointer (some ⟨c, 0, none⟩)] w fun e w' => e = .returned (.bool v) ∧ ∃ nd, w' = w.drewN nd := by
 have lb := World.block_lt_of_cell? w _ h1
 have lc := World.block_lt_of_cell? w _ h2
 simp only at lb lc
 have C1 := Lib.hid (composite_at h1)
 have C2 := Lib.hid (composite_at h2)
 have HB1 := Lib.hid hB1
 have HB2 := Lib.hid hB2
 have HREC := Lib.hid hrec
 clear hB1 hB2 hrec
 go_enter Tryz.func25, Tryz.ntmps25
 go_wp2_with fail
 refine HB1.out.mono ?_
 rintro e w9 ⟨rfl, rfl⟩
 go_wp2_with fail
 refine HB2.out.mono ?_
 rintro e w9 ⟨rfl, rfl⟩
 go_wp2_with fail
 refine C1.out.mono ?_
 rintro e w9 ⟨rfl, rfl⟩
 go_wp2_with fail
 go_quiet (fail)
 go_wp2_with fail
 refine wp_world (fun W => ∃ d, W = w9.drewN d) ⟨_, rfl⟩ (fun W hW => ?_)
 obtain ⟨d, hW⟩ := hW
 have h14W : W.cell? ⟨b', 4, none⟩ = some (.pointer (some ⟨b2, 0, none⟩)) := by rw [hW]; exact h14
 have h24W : W.cell? ⟨c', 4, none⟩ = some (.pointer (some ⟨c2, 0, none⟩)) := by rw [hW]; exact h24
 have lbW : b' < W.heap.size := by rw [hW]; exact lb
 have lcW : c' < W.heap.size := by rw [hW]; exact lc
 have HRW : Hid (∀ n, Calls Tryz.prog 25 #[.pointer (some ⟨b2, 0, none⟩), .pointer (some ⟨c2, 0, none⟩)] (W.drewN n) fun e w' => e = .returned (.bool v) ∧ ∃ nd, w' = (W.drewN n).drewN nd) := Lib.hid fun n => by rw [hW, World.drewN_drewN]; exact HREC.out _
 have HW := Lib.hid hW
 clear hW h1 h2 h14 h24 lb lc HREC
 go_quiet ((go_at_call 25; exact Calls.quiet_of (HRW.out _)))
 go_wp2_with fail
 go_ret
 exact ⟨rfl, _, by rw [HW.out, World.drewN_drewN]⟩
theorem compat_enm {w : World} {b c b' c' : Nat} {n1 n2 : ByteArray} (hB1 : Calls Tryz.prog 13 #[.pointer (some ⟨b, 0, none⟩)] w fun e w' => e = .returned (.pointer (some ⟨b', 0, none⟩)) ∧ w' = w)
  (hB2 : Calls Tryz.prog 13 #[.pointer (some ⟨c, 0, none⟩)] w fun e w' => e = .returned (.pointer (some ⟨c', 0, none⟩)) ∧ w' = w)
  (h1 : w.cell? ⟨b', 0, none⟩ = some (.int .i64 6)) (h2 : w.cell? ⟨c', 0, none⟩ = some (.int .i64 6)) (h14 : w.cell? ⟨b', 1, none⟩ = some (.string n1)) (h24 : w.cell? ⟨c', 1, none⟩ = some (.string n2)) :
  Calls Tryz.prog 25 #[.pointer (some ⟨b, 0, none⟩), .pointer (some ⟨c, 0, none⟩)] w fun e w' => e = .returned (.bool (ess n1 n2)) ∧ ∃ nd, w' = w.drewN nd := by
 have lb := World.block_lt_of_cell? w _ h1
 have lc := World.block_lt_of_cell? w _ h2
 simp only at lb lc
 have C1 := Lib.hid (composite_at h1)
 have HB1 := Lib.hid hB1
 have HB2 := Lib.hid hB2
 clear hB1 hB2
 go_enter Tryz.func25, Tryz.ntmps25
 go_wp2_with fail
 refine HB1.out.mono ?_
 rintro e w9 ⟨rfl, rfl⟩
 go_wp2_with fail
 refine HB2.out.mono ?_
 rintro e w9 ⟨rfl, rfl⟩
 go_wp2_with fail
 refine C1.out.mono ?_
 rintro e w9 ⟨rfl, rfl⟩
 go_wp2_with fail
 go_quiet (fail)
 go_wp2_with fail
 refine wp_world (fun W => ∃ d, W = w9.drewN d) ⟨_, rfl⟩ (fun W hW => ?_)
 obtain ⟨d, hW⟩ := hW
 have h14W : W.cell? ⟨b', 1, none⟩ = some (.string n1) := by rw [hW]; exact h14
 have h24W : W.cell? ⟨c', 1, none⟩ = some (.string n2) := by rw [hW]; exact h24
 have lbW : b' < W.heap.size := by rw [hW]; exact lb
 have lcW : c' < W.heap.size := by rw [hW]; exact lc
 have HW := Lib.hid hW
 clear hW h1 h2 h14 h24 lb lc
 go_quiet ((go_at_call 39; exact Calls.quiet_of_same (essential_spec _ _ _)))
 go_wp2_with fail
 go_ret
 exact ⟨rfl, _, by rw [HW.out, World.drewN_drewN]⟩
theorem FOk.behind {t : Ty} (h : FOk t) : FOk t.behind := by
 cases h with
 | leaf h => cases h with
  | int h => obtain ⟨sz, sg, nm, rfl, hh⟩ := h; exact .leaf (.int ⟨sz, sg, nm, rfl, hh⟩)
  | ptr h => exact .leaf (.ptr h)
  | enm h => obtain ⟨nm, sg, n, vn, vv, rfl, hh⟩ := h; exact .leaf (.enm ⟨nm, sg, n, vn, vv, rfl, hh⟩)
  | arr h h1 h2 => exact .leaf (.arr h h1 h2)
  | named h _ => obtain ⟨sz, sg, nm, rfl, hh⟩ := h; exact .leaf (.int ⟨sz, sg, nm, rfl, hh⟩)
  | cst h => obtain ⟨sz, sg, nm, rfl, hh⟩ := h; exact .leaf (.int ⟨sz, sg, nm, rfl, hh⟩)
 | comp h1 h2 h3 h4 h5 => exact .comp h1 h2 h3 h4 h5
theorem compatF : ∀ (N : Nat) {w : World} {D D' : Nat → Prop} {b c : Nat} {t u : Ty}, t.cnt ≤ N → FOk t → FOk u → Rep w D b t → Rep w D' c u →
  Calls Tryz.prog 25 #[.pointer (some ⟨b, 0, none⟩), .pointer (some ⟨c, 0, none⟩)] w fun e w' => e = .returned (.bool (cmpF t u)) ∧ ∃ nd, w' = w.drewN nd := by
 intro N
 induction N with
 | zero => intro w D D' b c t u h; have := Ty.cnt_pos t; omega
 | succ N ih =>
  intro w D D' b c t u hN gt gu r r'
  obtain ⟨b', rb, hB1⟩ := behind_at r
  obtain ⟨c', rc, hB2⟩ := behind_at r'
  have hN' := Nat.le_trans (cnt_behind t) hN
  have gt := gt.behind
  have gu := gu.behind
  have it := behind_idem t
  have iu := behind_idem u
  have kt := behind_kinds t
  have ku := behind_kinds u
  have h1 := rb.kindCell
  have h2 := rc.kindCell
  have hcf : cmpF t u = cmpF t.behind u.behind := by unfold cmpF; rw [it, iu]
  rw [hcf]
  clear hN r r' hcf
  generalize t.behind = t' at rb gt it kt hN' h1 ⊢
  generalize u.behind = u' at rc gu iu ku h2 ⊢
  have hval : ∀ {v : Bool}, cmpF t' u' = v → (((((t'.kind : Nat) : Int) == 4 || ((t'.kind : Nat) : Int) == 5) && (((u'.kind : Nat) : Int) == 4 || ((u'.kind : Nat) : Int) == 5)) || ((t'.kind : Nat) : Int) == ((u'.kind : Nat) : Int)) = v →
    (((t'.kind : Nat) : Int) ≠ ((u'.kind : Nat) : Int) ∨ ((((t'.kind : Nat) : Int) == 4 || ((t'.kind : Nat) : Int) == 5) = true ∧ (((u'.kind : Nat) : Int) == 4 || ((u'.kind : Nat) : Int) == 5) = true) ∨ (((t'.kind : Nat) : Int) = ((u'.kind : Nat) : Int) ∧ ((t'.kind : Nat) : Int) ≠ 3 ∧ ((t'.kind : Nat) : Int) ≠ 6)) →
    Calls Tryz.prog 25 #[.pointer (some ⟨b, 0, none⟩), .pointer (some ⟨c, 0, none⟩)] w fun e w' => e = .returned (.bool (cmpF t' u')) ∧ ∃ nd, w' = w.drewN nd := fun e1 e2 hk => by
   have := compat_leaf hB1 hB2 h1 h2 hk
   rw [e2, ← e1] at this
   exact this
  by_cases hcc : (isC t' && isC u') = true
  ·have e1 : cmpF t' u' = true := cmpF_comp (by rw [it, iu]; exact hcc)
   simp only [Bool.and_eq_true] at hcc
   exact hval e1 (by rw [isC_kind, isC_kind, hcc.1, hcc.2]; rfl) (.inr (.inl ⟨by rw [isC_kind]; exact hcc.1, by rw [isC_kind]; exact hcc.2⟩))
  ·have hcc' : (isC t' && isC u') = false := by simpa using hcc
   by_cases hk : t'.kind = u'.kind
   ·cases rb with
    | int h _ => cases rc with
     | int h' _ => exact hval (v := true) rfl rfl (.inr (.inr ⟨rfl, (by show (1 : Int) ≠ 3; decide), (by show (1 : Int) ≠ 6; decide)⟩))
     | @comp _ _ _ un => cases un <;> cases hk
     | _ => cases hk
    | ptr h _ _ => cases rc with
     | ptr h' _ _ => exact hval (v := true) rfl rfl (.inr (.inr ⟨rfl, (by show (2 : Int) ≠ 3; decide), (by show (2 : Int) ≠ 6; decide)⟩))
     | @comp _ _ _ un => cases un <;> cases hk
     | _ => cases hk
    | @arr _ _ m1 t1 h _ r1 => cases rc with
     | @arr _ _ m2 u1 h' _ r2 =>
      have hi1 := gt.arr.1
      have hi2 := gu.arr.1
      have hv : cmpF t1 u1 = true := by obtain ⟨_, _, _, rfl, _⟩ := hi1; obtain ⟨_, _, _, rfl, _⟩ := hi2; rfl
      refine compat_arr hB1 hB2 (h.cell 0) (h'.cell 0) (h.cell 4) (h'.cell 4) (v := true) fun n => ?_
      rw [← hv]
      exact ih (by simp only [Ty.cnt] at hN'; omega) (.leaf (.int hi1)) (.leaf (.int hi2)) (r1.drewN n) (r2.drewN n)
     | @comp _ _ _ un => cases un <;> cases hk
     | _ => cases hk
    | named => exact absurd rfl kt.1
    | cst => exact absurd rfl kt.2
    | enm h _ _ _ _ => cases rc with
     | enm h' _ _ _ _ => exact compat_enm hB1 hB2 (h.cell 0) (h'.cell 0) (h.cell 1) (h'.cell 1)
     | @comp _ _ _ un => cases un <;> cases hk
     | _ => cases hk
    | @comp _ _ _ un => cases rc with
     | @comp _ _ _ un' => cases un <;> cases un' <;> cases hcc'
     | _ => cases un <;> cases hk
   ·have e1 : cmpF t' u' = false := cmpF_ne (by rw [it, iu]; exact hk) (by rw [it, iu]; exact hcc')
    have hki : ((t'.kind : Nat) : Int) ≠ ((u'.kind : Nat) : Int) := by omega
    exact hval e1 (by rw [isC_kind, isC_kind, hcc', beq_eq_false_iff_ne.2 hki]; rfl) (.inl hki)
def fldV (p at_ bits from_ : Nat) : Value := .agg #[.pointer (some ⟨p, 0, none⟩), .int .i64 (at_ : Nat), .int .i64 (bits : Nat), .int .i64 (from_ : Nat)]
theorem placed_any {w : World} {D : Nat → Prop} {b : Nat} {y : Ty} {nm : ByteArray} {p : Nat} {at_ a bits : Nat} (r : Rep w D b y) (hal : al y ≠ 0) (hal8 : al y ≤ 8) (ha : a ≤ 400000) (hat : at_ ≤ 100000000) :
  Calls Tryz.prog 29 #[.pointer (some ⟨b, 0, none⟩), .int .i64 (at_ : Nat), .agg #[.string nm, .pointer (some ⟨p, 0, none⟩), .int .i64 (a : Nat), .int .i64 (bits : Nat), .int .i64 0]] w fun e w' => e = .returned (fldV b (at_ + load y a) bits (a - 8 * load y a)) ∧ Below w.heap.size w w' := by
 have hb0 := (Below.refl w.heap.size w).alloc (Nat.le_refl _) (.cells #[.string nm, .pointer (some ⟨p, 0, none⟩), .int .i64 (a : Nat), .int .i64 (bits : Nat), .int .i64 0] 56)
 have hb1 := hb0.alloc (by simp) (.cells #[.pointer none, .int .i64 0, .int .i64 0, .int .i64 0] 31)
 have HA := Lib.hid (align_any y.cnt (Nat.le_refl _) (r.old hb1))
 obtain ⟨n, hn⟩ : ∃ n, n = al y := ⟨_, rfl⟩
 have hld : load y a = a / 8 / n * n := by rw [hn]; rfl
 rw [← hn] at HA hal hal8
 rw [hld]
 obtain ⟨q, hq⟩ : ∃ q, q = a / 8 / n := ⟨_, rfl⟩
 obtain ⟨m, hm⟩ : ∃ m, m = q * n := ⟨_, rfl⟩
 have hle : m ≤ a / 8 := by rw [hm, hq]; exact Nat.div_mul_le_self _ _
 have z2 : wrap64 ((a : Int) / 8 / (n : Int) * (n : Int)) = (m : Int) := by
  have : (a : Int) / 8 / (n : Int) = (q : Int) := by rw [hq, Int.natCast_ediv, Int.natCast_ediv]; rfl
  rw [this, ← Int.natCast_mul, ← hm]
  exact IntWalk.wrap64_in _ (by omega)
 have e1 : ¬ (n : Int) = 0 := by omega
 have hmm : a / 8 / n * n = m := by rw [hm, hq]
 rw [hmm]
 clear hb0 hb1 hld hn r hq hm hmm
 go_enter Tryz.func29, Tryz.ntmps29
 go_wp2_with fail
 refine HA.out.mono ?_
 rintro e w9 ⟨rfl, rfl⟩
 go_wp2_with fail
 refine bodyPost_ret (v := .agg #[.pointer (some ⟨b, 0, none⟩), .int .i64 ((at_ : Int) + m), .int .i64 (bits : Nat), .int .i64 ((a : Int) - 8 * m)]) ?_ rfl ⟨?_, ?_⟩
 ·rw [results_c rfl]
  go_simp
 ·unfold fldV
  rw [Int.natCast_add, show ((a - 8 * m : Nat) : Int) = (a : Int) - 8 * m by omega]
 ·exact ((Below.refl w.heap.size w).alloc (Nat.le_refl _) _).alloc (by simp) _
end Go.Proofs.YtfilbgmbmlmdbaaGreatDoor
