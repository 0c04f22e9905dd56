/- A relocation of a field that is there: further kinds: the package's own function. Nothing is claimed here. -/
import Derived.Test.YtfilbgmbmlmdbaaGreatDoorZ24
import Derived.Test.YtfilbgmbmlmdbaaGreatDoorZ17
set_option linter.unusedSimpArgs false
set_option linter.unusedVariables false
set_option maxRecDepth 1000000
set_option maxHeartbeats 16000000
namespace Go.Proofs.YtfilbgmbmlmdbaaGreatDoor
open Go.RowKit Go.MapKept
theorem ordLE (W : World) : Sem.run Tryz.prog (binOp BinOp.eql 102 (Value.iface 100 (Value.agg #[])) (Value.iface 100 (Value.agg #[]))) W = .ok (.bool true) W := by
 kernel_rfl
theorem ordBE (W : World) : Sem.run Tryz.prog (binOp BinOp.eql 102 (Value.iface 103 (Value.agg #[])) (Value.iface 100 (Value.agg #[]))) W = .ok (.bool false) W := by
 kernel_rfl
section
variable {w : World} {cb : Nat} {xt : TypeId} {xv y id bo rs : Value} {aa : Option Addr} {an ac : Nat} {a : Addr}
theorem calc4_little {PA PB : TypeId → Value → Prop} {o1 f1 o2 : Int} {f2 m1 m2 : Nat} {s2 q : Nat} (hsz : s2 ≤ 200000) (hq : q = (if 0 < m2 then m2 else 8 * s2)) (hs2 : ∀ tB pB, PB tB pB → SizeC w (.iface tB pB) (s2 : Nat)) (hR : ReloE w cb (.iface xt xv) (.slice aa an ac) 4 id a) (hA : FwdC w y) (hF : FieldC w (.iface xt xv) (.slice aa an ac) y fun v _ => ∃ tA pA tB pB, v = .tuple #[.agg (cfC (.iface tA pA) o1 f1 (m1 : Nat)), .agg (cfC (.iface tB pB) o2 (f2 : Nat) (m2 : Nat)), .nilIface] ∧ PA tA pA ∧ PB tB pB) :
  Calls Tryz.prog 44 #[.pointer (some ⟨cb, 0, none⟩), y, .iface 100 (.agg #[]), rs] w fun e w' => e = .returned (.tuple #[fixV 4 0 ((64 - (f2 : Int) - (q : Int)) % 4294967296) false true, .nilIface]) ∧ Below w.heap.size w w' := by
 obtain ⟨p0, p1, p2, p3⟩ := hR.blk.four
 have e0 := hR.err
 have lc := hR.blk.lt
 have le := World.block_lt_of_cell? w _ e0
 simp only at le
 have HF := Lib.hid hF
 have HFW := Lib.hid hA
 have HS2 := Lib.hid hs2
 have HQ := Lib.hid hq
 clear hR hF hA hs2 hq
 go_enter Tryz.func44, Tryz.ntmps44
 go_upto_region 5 with fail
 refine wp_world (CSt w cb w.heap.size) (CSt.start w cb) (fun W st => ?_)
 obtain ⟨r, hr⟩ : ∃ r, r = w.heap.size := ⟨_, rfl⟩
 rw [← hr] at st ⊢
 clear hr
 have p0W := (st.bel.cell (p := ⟨cb, 0, none⟩) lc).trans p0
 have p1W := (st.bel.cell (p := ⟨cb, 1, none⟩) lc).trans p1
 have p2W := (st.bel.cell (p := ⟨cb, 2, none⟩) lc).trans p2
 have e0W := (st.bel.cell (p := ⟨4, 0, none⟩) le).trans e0
 have s0W := st.rb.cell 0
 have f0W := st.fb.cell 0
 simp only [List.getElem?_toArray, List.getElem?_cons_zero] at s0W f0W
 have lcW := Nat.lt_of_lt_of_le lc st.bel.size
 have leW := Nat.lt_of_lt_of_le le st.bel.size
 have lrW := st.rb.lt
 have lfW := st.fb.lt
 have Hst := Lib.hid st
 go_wp2_with fail
 refine (HFW.out W Hst.out.bel).mono ?_
 rintro e W1 ⟨rfl, rfl⟩
 obtain ⟨W, rfl⟩ : ∃ z : World, z = W1 := ⟨_, rfl⟩
 clear HFW
 go_wp2_with fail
 refine (HF.out W Hst.out.bel).mono ?_
 rintro e W0 ⟨hb0, v, rfl, tA, pA, tB, pB, rfl, hPA, hPB⟩
 replace HS2 := Lib.hid (HS2.out _ _ hPB)
 clear hPA hPB
 go_upto_region 66 with fail
 obtain ⟨W2, hW2⟩ : ∃ z, z = (W0.alloc (.cells (cfC (.iface tA pA) o1 f1 (m1 : Nat)) 137)).alloc (.cells (cfC (.iface tB pB) o2 (f2 : Nat) (m2 : Nat)) 137) := ⟨_, rfl⟩
 rw [← hW2]
 have hb2 : Below W.heap.size W W2 := by rw [hW2]; exact (hb0.alloc hb0.size _).alloc (by have := hb0.size; simp; omega) _
 obtain ⟨lf, hlf⟩ : ∃ z, z = W0.heap.size := ⟨_, rfl⟩
 obtain ⟨tf, htf⟩ : ∃ z, z = W0.heap.size + 1 := ⟨_, rfl⟩
 rw [← htf, ← hlf]
 have hLF : Hid (Blk W2 lf (cfC (.iface tA pA) o1 f1 (m1 : Nat)) 137) := Lib.hid (by rw [hW2, hlf]; exact (Blk.new _ _ _).alloc _)
 have hTF : Hid (Blk W2 tf (cfC (.iface tB pB) o2 (f2 : Nat) (m2 : Nat)) 137) := Lib.hid (by rw [hW2, htf]; exact Blk.newAt _ _ _ (by simp))
 have hne1 : lf ≠ r + 1 := by have := Hst.out.res.lt; have := hb0.size; omega
 have hne2 : tf ≠ r + 1 := by have := Hst.out.res.lt; have := hb0.size; omega
 clear hW2 hb0 hlf htf
 have st2 := Hst.out.old hb2
 have bel2 := st2.bel
 clear st
 have st2p0 := (bel2.cell (p := ⟨cb, 0, none⟩) lc).trans p0
 have st2p1 := (bel2.cell (p := ⟨cb, 1, none⟩) lc).trans p1
 have st2p2 := (bel2.cell (p := ⟨cb, 2, none⟩) lc).trans p2
 have st2e0 := (bel2.cell (p := ⟨4, 0, none⟩) le).trans e0
 have st2s0 := st2.rb.cell 0
 have st2f0 := st2.fb.cell 0
 simp only [List.getElem?_toArray, List.getElem?_cons_zero] at st2s0 st2f0
 have st2lc := Nat.lt_of_lt_of_le lc bel2.size
 have st2le := Nat.lt_of_lt_of_le le bel2.size
 have st2lr := st2.rb.lt
 have st2lf := st2.fb.lt
 obtain ⟨r0, r1, r2, r3, r4⟩ := st2.res.five
 have g0 := st2.res.free 0
 have g1 := st2.res.free 1
 have g2 := st2.res.free 2
 have g3 := st2.res.free 3
 have g4 := st2.res.free 4
 have lq := st2.res.lt
 have Hst2 := Lib.hid st2
 have Hbel2 := Lib.hid bel2
 clear st2 bel2 hb2
 clear p0W p1W p2W e0W s0W f0W lcW leW lrW lfW
 go_wp2_with fail
 refine (is_nil a W2).mono ?_
 rintro e W3 ⟨rfl, rfl⟩
 have HSB := Lib.hid (sizeBits_any hTF.out (fun W hW => HS2.out W ((CellsKept.below Hbel2.out).trans hW)) hsz)
 rw [← HQ.out] at HSB
 clear HQ
 obtain ⟨ta0, ta1, ta2, ta3⟩ := hTF.out.four
 have tl := hTF.out.lt
 have heq := ordLE
 go_wp2_with fail
 refine HSB.out.mono ?_
 rintro e W6 ⟨rfl, hb26⟩
 clear HSB
 have st6 := Hst2.out.old hb26
 have st6p2 := (st6.bel.cell (p := ⟨cb, 2, none⟩) lc).trans p2
 have st6s0 := st6.rb.cell 0
 have st6f0 := st6.fb.cell 0
 simp only [List.getElem?_toArray, List.getElem?_cons_zero] at st6s0 st6f0
 have st6lr := st6.rb.lt
 have st6lf := st6.fb.lt
 have st6lc := Nat.lt_of_lt_of_le lc st6.bel.size
 clear st6 st2s0 st2f0 st2p2 st2p0 st2p1 st2e0 st2lc st2le st2lr st2lf
 have hTF6 := hTF.out.old hb26
 have H26 := Lib.hid hb26
 clear hb26 ta0 ta1 ta2 ta3 tl
 obtain ⟨ta0, ta1, ta2, ta3⟩ := hTF6.four
 have tl := hTF6.lt
 clear hTF6
 go_wp2_with fail
 refine (shift_any W6 r cb 4 0 ((64 - (f2 : Int) - (q : Int)) % 4294967296) st6s0 st6p2).mono ?_
 rintro e W4 ⟨rfl, hb8⟩
 have hb4 := H26.out.trans (hb8.mono H26.out.size)
 clear hb8
 have st4 := Hst2.out.old hb4
 clear r0 r1 r2 r3 r4 g0 g1 g2 g3 g4 lq
 obtain ⟨r0, r1, r2, r3, r4⟩ := st4.res.five
 have g0 := st4.res.free 0
 have g1 := st4.res.free 1
 have g2 := st4.res.free 2
 have g3 := st4.res.free 3
 have g4 := st4.res.free 4
 have lq := st4.res.lt
 have Hst4 := Lib.hid st4
 clear st4 hb4
 go_wp2_with fail
 refine bodyPost_ret (v := .tuple #[fixV 4 0 ((64 - (f2 : Int) - (q : Int)) % 4294967296) false true, .nilIface]) ?_ rfl ⟨rfl, ?_⟩
 ·rw [results_cell_tmp rfl]
  go_simp
 ·have hge : w.heap.size ≤ r + 1 := by have := Hst4.out.at_; omega
  exact (((((Hst4.out.bel.setCell (p := ⟨r + 1, 0, none⟩) hge _).setCell (p := ⟨r + 1, 1, none⟩) hge _).setCell (p := ⟨r + 1, 2, none⟩) hge _).setCell (p := ⟨r + 1, 3, none⟩) hge _).setCell (p := ⟨r + 1, 4, none⟩) hge _)
end
section
variable {w : World} {cb : Nat} {xt : TypeId} {xv y id bo rs : Value} {aa : Option Addr} {an ac : Nat} {a : Addr}
theorem calc4_big {PA PB : TypeId → Value → Prop} {o1 f1 o2 : Int} {f2 m1 m2 : Nat} {s2 : Nat} (hsz : s2 ≤ 200000) (hs2 : ∀ tB pB, PB tB pB → SizeC w (.iface tB pB) (s2 : Nat)) (hR : ReloE w cb (.iface xt xv) (.slice aa an ac) 4 id a) (hA : FwdC w y) (hF : FieldC w (.iface xt xv) (.slice aa an ac) y fun v _ => ∃ tA pA tB pB, v = .tuple #[.agg (cfC (.iface tA pA) o1 f1 (m1 : Nat)), .agg (cfC (.iface tB pB) o2 (f2 : Nat) (m2 : Nat)), .nilIface] ∧ PA tA pA ∧ PB tB pB) :
  Calls Tryz.prog 44 #[.pointer (some ⟨cb, 0, none⟩), y, .iface 103 (.agg #[]), rs] w fun e w' => e = .returned (.tuple #[fixV 4 0 ((64 - (s2 : Int) * 8 + (f2 : Int)) % 4294967296) false true, .nilIface]) ∧ Below w.heap.size w w' := by
 obtain ⟨p0, p1, p2, p3⟩ := hR.blk.four
 have e0 := hR.err
 have lc := hR.blk.lt
 have le := World.block_lt_of_cell? w _ e0
 simp only at le
 have HF := Lib.hid hF
 have HFW := Lib.hid hA
 have HS2 := Lib.hid hs2
 clear hR hF hA hs2
 go_enter Tryz.func44, Tryz.ntmps44
 go_upto_region 5 with fail
 refine wp_world (CSt w cb w.heap.size) (CSt.start w cb) (fun W st => ?_)
 obtain ⟨r, hr⟩ : ∃ r, r = w.heap.size := ⟨_, rfl⟩
 rw [← hr] at st ⊢
 clear hr
 have p0W := (st.bel.cell (p := ⟨cb, 0, none⟩) lc).trans p0
 have p1W := (st.bel.cell (p := ⟨cb, 1, none⟩) lc).trans p1
 have p2W := (st.bel.cell (p := ⟨cb, 2, none⟩) lc).trans p2
 have e0W := (st.bel.cell (p := ⟨4, 0, none⟩) le).trans e0
 have s0W := st.rb.cell 0
 have f0W := st.fb.cell 0
 simp only [List.getElem?_toArray, List.getElem?_cons_zero] at s0W f0W
 have lcW := Nat.lt_of_lt_of_le lc st.bel.size
 have leW := Nat.lt_of_lt_of_le le st.bel.size
 have lrW := st.rb.lt
 have lfW := st.fb.lt
 have Hst := Lib.hid st
 go_wp2_with fail
 refine (HFW.out W Hst.out.bel).mono ?_
 rintro e W1 ⟨rfl, rfl⟩
 obtain ⟨W, rfl⟩ : ∃ z : World, z = W1 := ⟨_, rfl⟩
 clear HFW
 go_wp2_with fail
 refine (HF.out W Hst.out.bel).mono ?_
 rintro e W0 ⟨hb0, v, rfl, tA, pA, tB, pB, rfl, hPA, hPB⟩
 replace HS2 := Lib.hid (HS2.out _ _ hPB)
 clear hPA hPB
 go_upto_region 66 with fail
 obtain ⟨W2, hW2⟩ : ∃ z, z = (W0.alloc (.cells (cfC (.iface tA pA) o1 f1 (m1 : Nat)) 137)).alloc (.cells (cfC (.iface tB pB) o2 (f2 : Nat) (m2 : Nat)) 137) := ⟨_, rfl⟩
 rw [← hW2]
 have hb2 : Below W.heap.size W W2 := by rw [hW2]; exact (hb0.alloc hb0.size _).alloc (by have := hb0.size; simp; omega) _
 obtain ⟨lf, hlf⟩ : ∃ z, z = W0.heap.size := ⟨_, rfl⟩
 obtain ⟨tf, htf⟩ : ∃ z, z = W0.heap.size + 1 := ⟨_, rfl⟩
 rw [← htf, ← hlf]
 have hLF : Hid (Blk W2 lf (cfC (.iface tA pA) o1 f1 (m1 : Nat)) 137) := Lib.hid (by rw [hW2, hlf]; exact (Blk.new _ _ _).alloc _)
 have hTF : Hid (Blk W2 tf (cfC (.iface tB pB) o2 (f2 : Nat) (m2 : Nat)) 137) := Lib.hid (by rw [hW2, htf]; exact Blk.newAt _ _ _ (by simp))
 have hne1 : lf ≠ r + 1 := by have := Hst.out.res.lt; have := hb0.size; omega
 have hne2 : tf ≠ r + 1 := by have := Hst.out.res.lt; have := hb0.size; omega
 clear hW2 hb0 hlf htf
 have st2 := Hst.out.old hb2
 have bel2 := st2.bel
 clear st
 have st2p0 := (bel2.cell (p := ⟨cb, 0, none⟩) lc).trans p0
 have st2p1 := (bel2.cell (p := ⟨cb, 1, none⟩) lc).trans p1
 have st2p2 := (bel2.cell (p := ⟨cb, 2, none⟩) lc).trans p2
 have st2e0 := (bel2.cell (p := ⟨4, 0, none⟩) le).trans e0
 have st2s0 := st2.rb.cell 0
 have st2f0 := st2.fb.cell 0
 simp only [List.getElem?_toArray, List.getElem?_cons_zero] at st2s0 st2f0
 have st2lc := Nat.lt_of_lt_of_le lc bel2.size
 have st2le := Nat.lt_of_lt_of_le le bel2.size
 have st2lr := st2.rb.lt
 have st2lf := st2.fb.lt
 obtain ⟨r0, r1, r2, r3, r4⟩ := st2.res.five
 have g0 := st2.res.free 0
 have g1 := st2.res.free 1
 have g2 := st2.res.free 2
 have g3 := st2.res.free 3
 have g4 := st2.res.free 4
 have lq := st2.res.lt
 have Hst2 := Lib.hid st2
 have Hbel2 := Lib.hid bel2
 clear st2 bel2 hb2
 clear p0W p1W p2W e0W s0W f0W lcW leW lrW lfW
 go_wp2_with fail
 refine (is_nil a W2).mono ?_
 rintro e W3 ⟨rfl, rfl⟩
 obtain ⟨ta0, ta1, ta2, ta3⟩ := hTF.out.four
 have tl := hTF.out.lt
 have heq := ordBE
 go_wp2_with fail
 refine (HS2.out W3 (CellsKept.below Hbel2.out)).mono ?_
 rintro e W6 ⟨rfl, hb26⟩
 have st6 := Hst2.out.old hb26
 have st6p2 := (st6.bel.cell (p := ⟨cb, 2, none⟩) lc).trans p2
 have st6s0 := st6.rb.cell 0
 have st6f0 := st6.fb.cell 0
 simp only [List.getElem?_toArray, List.getElem?_cons_zero] at st6s0 st6f0
 have st6lr := st6.rb.lt
 have st6lf := st6.fb.lt
 have st6lc := Nat.lt_of_lt_of_le lc st6.bel.size
 clear st6 st2s0 st2f0 st2p2 st2p0 st2p1 st2e0 st2lc st2le st2lr st2lf
 have hTF6 := hTF.out.old hb26
 have H26 := Lib.hid hb26
 clear hb26 ta0 ta1 ta2 ta3 tl
 obtain ⟨ta0, ta1, ta2, ta3⟩ := hTF6.four
 have tl := hTF6.lt
 clear hTF6
 go_wp2_with fail
 refine (shift_any W6 r cb 4 0 ((64 - (s2 : Int) * 8 + (f2 : Int)) % 4294967296) st6s0 st6p2).mono ?_
 rintro e W4 ⟨rfl, hb8⟩
 have hb4 := H26.out.trans (hb8.mono H26.out.size)
 clear hb8
 have st4 := Hst2.out.old hb4
 clear r0 r1 r2 r3 r4 g0 g1 g2 g3 g4 lq
 obtain ⟨r0, r1, r2, r3, r4⟩ := st4.res.five
 have g0 := st4.res.free 0
 have g1 := st4.res.free 1
 have g2 := st4.res.free 2
 have g3 := st4.res.free 3
 have g4 := st4.res.free 4
 have lq := st4.res.lt
 have Hst4 := Lib.hid st4
 clear st4 hb4
 go_wp2_with fail
 refine bodyPost_ret (v := .tuple #[fixV 4 0 ((64 - (s2 : Int) * 8 + (f2 : Int)) % 4294967296) false true, .nilIface]) ?_ rfl ⟨rfl, ?_⟩
 ·rw [results_cell_tmp rfl]
  go_simp
 ·have hge : w.heap.size ≤ r + 1 := by have := Hst4.out.at_; omega
  exact (((((Hst4.out.bel.setCell (p := ⟨r + 1, 0, none⟩) hge _).setCell (p := ⟨r + 1, 1, none⟩) hge _).setCell (p := ⟨r + 1, 2, none⟩) hge _).setCell (p := ⟨r + 1, 3, none⟩) hge _).setCell (p := ⟨r + 1, 4, none⟩) hge _)
end
section
variable {w : World} {cb : Nat} {xt : TypeId} {xv y' id bo rs : Value} {aa : Option Addr} {an ac : Nat} {a : Addr}
theorem calc3_int {x y : Int} {PA PB : TypeId → Value → Prop} {o1 f1 o2 f2 : Int} {m1 m2 : Nat} (x01 : x = 0 ∨ x = 1) (y01 : y = 0 ∨ y = 1) (hI1 : ∀ tA pA, PA tA pA → ∃ q1, (∀ W, Below w.heap.size w W → Calls Tryz.prog 65 #[.iface tA pA] W fun e w' => e = .returned (.iface 151 (.pointer (some ⟨q1, 0, none⟩))) ∧ w' = W) ∧ w.cell? ⟨q1, 2, none⟩ = some (.int .u8 x))
  (hI2 : ∀ tB pB, PB tB pB → ∃ q2, (∀ W, Below w.heap.size w W → Calls Tryz.prog 68 #[.iface tB pB] W fun e w' => e = .returned (.tuple #[.pointer (some ⟨q2, 0, none⟩), .bool true]) ∧ w' = W) ∧ w.cell? ⟨q2, 2, none⟩ = some (.int .u8 y)) (hR : ReloE w cb (.iface xt xv) (.slice aa an ac) 3 id a) (hA : FwdC w y') (hF : FieldC w (.iface xt xv) (.slice aa an ac) y' fun v _ => ∃ tA pA tB pB, v = .tuple #[.agg (cfC (.iface tA pA) o1 f1 (m1 : Nat)), .agg (cfC (.iface tB pB) o2 f2 (m2 : Nat)), .nilIface] ∧ PA tA pA ∧ PB tB pB) :
  Calls Tryz.prog 44 #[.pointer (some ⟨cb, 0, none⟩), y', bo, rs] w fun e w' => e = .returned (.tuple #[fixV 3 x y false false, .nilIface]) ∧ Below w.heap.size w w' := by
 obtain ⟨p0, p1, p2, p3⟩ := hR.blk.four
 have e0 := hR.err
 have lc := hR.blk.lt
 have le := World.block_lt_of_cell? w _ e0
 simp only at le
 have HF := Lib.hid hF
 have HFW := Lib.hid hA
 have HI1 := Lib.hid hI1
 have HI2 := Lib.hid hI2
 clear hR hF hA hI1 hI2
 go_enter Tryz.func44, Tryz.ntmps44
 go_upto_region 5 with fail
 refine wp_world (CSt w cb w.heap.size) (CSt.start w cb) (fun W st => ?_)
 obtain ⟨r, hr⟩ : ∃ r, r = w.heap.size := ⟨_, rfl⟩
 rw [← hr] at st ⊢
 clear hr
 have p0W := (st.bel.cell (p := ⟨cb, 0, none⟩) lc).trans p0
 have p1W := (st.bel.cell (p := ⟨cb, 1, none⟩) lc).trans p1
 have p2W := (st.bel.cell (p := ⟨cb, 2, none⟩) lc).trans p2
 have e0W := (st.bel.cell (p := ⟨4, 0, none⟩) le).trans e0
 have s0W := st.rb.cell 0
 have f0W := st.fb.cell 0
 simp only [List.getElem?_toArray, List.getElem?_cons_zero] at s0W f0W
 have lcW := Nat.lt_of_lt_of_le lc st.bel.size
 have leW := Nat.lt_of_lt_of_le le st.bel.size
 have lrW := st.rb.lt
 have lfW := st.fb.lt
 have Hst := Lib.hid st
 go_wp2_with fail
 refine (HFW.out W Hst.out.bel).mono ?_
 rintro e W1 ⟨rfl, rfl⟩
 obtain ⟨W, rfl⟩ : ∃ z : World, z = W1 := ⟨_, rfl⟩
 clear HFW
 go_wp2_with fail
 refine (HF.out W Hst.out.bel).mono ?_
 rintro e W0 ⟨hb0, v, rfl, tA, pA, tB, pB, rfl, hPA, hPB⟩
 obtain ⟨q1, hU, hx⟩ := HI1.out _ _ hPA
 obtain ⟨q2, hI, hy⟩ := HI2.out _ _ hPB
 have HU := Lib.hid hU
 have HI := Lib.hid hI
 have Hx := Lib.hid hx
 have Hy := Lib.hid hy
 have Lx := World.block_lt_of_cell? w _ hx
 have Ly := World.block_lt_of_cell? w _ hy
 simp only at Lx Ly
 clear hU hI hx hy HI1 HI2
 clear hPA hPB
 go_upto_region 66 with fail
 obtain ⟨W2, hW2⟩ : ∃ z, z = (W0.alloc (.cells (cfC (.iface tA pA) o1 f1 (m1 : Nat)) 137)).alloc (.cells (cfC (.iface tB pB) o2 f2 (m2 : Nat)) 137) := ⟨_, rfl⟩
 rw [← hW2]
 have hb2 : Below W.heap.size W W2 := by rw [hW2]; exact (hb0.alloc hb0.size _).alloc (by have := hb0.size; simp; omega) _
 obtain ⟨lf, hlf⟩ : ∃ z, z = W0.heap.size := ⟨_, rfl⟩
 obtain ⟨tf, htf⟩ : ∃ z, z = W0.heap.size + 1 := ⟨_, rfl⟩
 rw [← htf, ← hlf]
 have hLF : Hid (Blk W2 lf (cfC (.iface tA pA) o1 f1 (m1 : Nat)) 137) := Lib.hid (by rw [hW2, hlf]; exact (Blk.new _ _ _).alloc _)
 have hTF : Hid (Blk W2 tf (cfC (.iface tB pB) o2 f2 (m2 : Nat)) 137) := Lib.hid (by rw [hW2, htf]; exact Blk.newAt _ _ _ (by simp))
 have hne1 : lf ≠ r + 1 := by have := Hst.out.res.lt; have := hb0.size; omega
 have hne2 : tf ≠ r + 1 := by have := Hst.out.res.lt; have := hb0.size; omega
 clear hW2 hb0 hlf htf
 have st2 := Hst.out.old hb2
 have bel2 := st2.bel
 clear st
 have st2p0 := (bel2.cell (p := ⟨cb, 0, none⟩) lc).trans p0
 have st2p1 := (bel2.cell (p := ⟨cb, 1, none⟩) lc).trans p1
 have st2p2 := (bel2.cell (p := ⟨cb, 2, none⟩) lc).trans p2
 have st2e0 := (bel2.cell (p := ⟨4, 0, none⟩) le).trans e0
 have st2s0 := st2.rb.cell 0
 have st2f0 := st2.fb.cell 0
 simp only [List.getElem?_toArray, List.getElem?_cons_zero] at st2s0 st2f0
 have st2lc := Nat.lt_of_lt_of_le lc bel2.size
 have st2le := Nat.lt_of_lt_of_le le bel2.size
 have st2lr := st2.rb.lt
 have st2lf := st2.fb.lt
 obtain ⟨r0, r1, r2, r3, r4⟩ := st2.res.five
 have g0 := st2.res.free 0
 have g1 := st2.res.free 1
 have g2 := st2.res.free 2
 have g3 := st2.res.free 3
 have g4 := st2.res.free 4
 have lq := st2.res.lt
 have Hst2 := Lib.hid st2
 have Hbel2 := Lib.hid bel2
 clear st2 bel2 hb2
 clear p0W p1W p2W e0W s0W f0W lcW leW lrW lfW
 go_wp2_with fail
 refine (is_nil a W2).mono ?_
 rintro e W3 ⟨rfl, rfl⟩
 obtain ⟨la0, la1, la2, la3⟩ := hLF.out.four
 obtain ⟨ta0, ta1, ta2, ta3⟩ := hTF.out.four
 have ll := hLF.out.lt
 have tl := hTF.out.lt
 have bx : bits BinOp.and IntKind.u8 x 1 = x := by rcases x01 with rfl | rfl <;> decide
 have by_ : bits BinOp.and IntKind.u8 y 1 = y := by rcases y01 with rfl | rfl <;> decide
 have bx2 : x % 2 = x := by omega
 have by2 : y % 2 = y := by omega
 have wx : IntKind.u64.wrap x = x := IntWalk.u64_in _ (by omega)
 have wy : IntKind.u64.wrap y = y := IntWalk.u64_in _ (by omega)
 have x0 : 0 ≤ x := by omega
 have x1 : x ≤ 1 := by omega
 have y0 : 0 ≤ y := by omega
 have y1 : y ≤ 1 := by omega
 clear x01 y01
 have aNo := taNoEnum 151 (by decide)
 have aYi := @ta_yes _ _ Tryz.underlying151
 go_wp2_with fail
 refine (HU.out W3 Hbel2.out).mono ?_
 rintro e w9 ⟨rfl, rfl⟩
 obtain ⟨W3, rfl⟩ : ∃ z : World, z = w9 := ⟨_, rfl⟩
 go_wp2_with fail
 refine (HI.out W3 Hbel2.out).mono ?_
 rintro e w9 ⟨rfl, rfl⟩
 obtain ⟨W3, rfl⟩ : ∃ z : World, z = w9 := ⟨_, rfl⟩
 have hx3 := (Hbel2.out.cell (p := ⟨q1, 2, none⟩) Lx).trans Hx.out
 have hy3 := (Hbel2.out.cell (p := ⟨q2, 2, none⟩) Ly).trans Hy.out
 have lx3 := Nat.lt_of_lt_of_le Lx Hbel2.out.size
 have ly3 := Nat.lt_of_lt_of_le Ly Hbel2.out.size
 clear r0 r1 r2 r3 r4 g0 g1 g2 g3 g4 lq la0 la1 la2 la3 ta0 ta1 ta2 ta3 ll tl
 go_wp2_with fail
 have hrr : w.heap.size ≤ r := Nat.le_of_eq Hst2.out.at_.symm
 have n1 : ¬ q1 = r + 1 := by have := Lx; omega
 have n2 : ¬ q2 = r + 1 := by have := Ly; omega
 have n3 : ¬ r + 2 = r + 1 := by omega
 have hdr : Below W3.heap.size W3 W3.drew := (Below.refl _ _).drew
 have hS3 : W3.drew.cell? ⟨r + 2, 0, none⟩ = some (.func (.func 53) #[] #[.pointer (some ⟨r, 0, none⟩)]) ∧ W3.drew.cell? ⟨q1, 2, none⟩ = some (.int .u8 x) ∧ W3.drew.cell? ⟨q2, 2, none⟩ = some (.int .u8 y) := ⟨st2f0, hx3, hy3⟩
 have hSof : ∀ w', Below W3.heap.size W3 w' → w'.cell? ⟨r + 2, 0, none⟩ = some (.func (.func 53) #[] #[.pointer (some ⟨r, 0, none⟩)]) ∧ w'.cell? ⟨q1, 2, none⟩ = some (.int .u8 x) ∧ w'.cell? ⟨q2, 2, none⟩ = some (.int .u8 y) :=
  fun w' hb => ⟨(hb.cell (p := ⟨r + 2, 0, none⟩) st2lf).trans st2f0, (hb.cell (p := ⟨q1, 2, none⟩) lx3).trans hx3, (hb.cell (p := ⟨q2, 2, none⟩) ly3).trans hy3⟩
 have hSet : ∀ w' : World, (w'.cell? ⟨r + 2, 0, none⟩ = some (.func (.func 53) #[] #[.pointer (some ⟨r, 0, none⟩)]) ∧ w'.cell? ⟨q1, 2, none⟩ = some (.int .u8 x) ∧ w'.cell? ⟨q2, 2, none⟩ = some (.int .u8 y)) → ∀ a0 a1 a2 a3 a4 : Value, ((((((w'.setCell ⟨r + 1, 0, none⟩ a0).setCell ⟨r + 1, 1, none⟩ a1).setCell ⟨r + 1, 2, none⟩ a2).setCell ⟨r + 1, 3, none⟩ a3).setCell ⟨r + 1, 4, none⟩ a4).cell? ⟨r + 2, 0, none⟩ = some (.func (.func 53) #[] #[.pointer (some ⟨r, 0, none⟩)]) ∧ (((((w'.setCell ⟨r + 1, 0, none⟩ a0).setCell ⟨r + 1, 1, none⟩ a1).setCell ⟨r + 1, 2, none⟩ a2).setCell ⟨r + 1, 3, none⟩ a3).setCell ⟨r + 1, 4, none⟩ a4).cell? ⟨q1, 2, none⟩ = some (.int .u8 x) ∧ (((((w'.setCell ⟨r + 1, 0, none⟩ a0).setCell ⟨r + 1, 1, none⟩ a1).setCell ⟨r + 1, 2, none⟩ a2).setCell ⟨r + 1, 3, none⟩ a3).setCell ⟨r + 1, 4, none⟩ a4).cell? ⟨q2, 2, none⟩ = some (.int .u8 y)) :=
  fun w' h a0 a1 a2 a3 a4 => ⟨(cell_five w' (p := ⟨r + 2, 0, none⟩) n3 a0 a1 a2 a3 a4).trans h.1, (cell_five w' (p := ⟨q1, 2, none⟩) n1 a0 a1 a2 a3 a4).trans h.2.1, (cell_five w' (p := ⟨q2, 2, none⟩) n2 a0 a1 a2 a3 a4).trans h.2.2⟩
 refine AnyBut.start (S := (fun w' : World => w'.cell? ⟨r + 2, 0, none⟩ = some (.func (.func 53) #[] #[.pointer (some ⟨r, 0, none⟩)]) ∧ w'.cell? ⟨q1, 2, none⟩ = some (.int .u8 x) ∧ w'.cell? ⟨q2, 2, none⟩ = some (.int .u8 y))) (t := 17) (by as_aux_lemma => kernel_rfl) (hS3) (fun hHeld => ?_)
 refine AnyBut.tk (i := 0) (v := ?_) rfl (by as_aux_lemma => kernel_rfl) (fun _ _ _ h => h) hHeld (by rfl) ?_ ?_
 rotate_left
 focus (intro w hSw; (try dsimp only at hSw); go_simp <;> with_reducible rfl)
 try simp only [Act.put, zl4, zl5, zl6]
 refine AnyBut.tk (i := 1) (v := ?_) rfl (by as_aux_lemma => kernel_rfl) (fun _ _ _ h => h) hHeld (by rfl) ?_ ?_
 rotate_left
 focus (intro w hSw; (try dsimp only at hSw); go_simp <;> with_reducible rfl)
 try simp only [Act.put, zl4, zl5, zl6]
 refine AnyBut.tk (i := 2) (v := ?_) rfl (by as_aux_lemma => kernel_rfl) (fun _ _ _ h => h) hHeld (by rfl) ?_ ?_
 rotate_left
 focus (intro w hSw; (try dsimp only at hSw); go_simp <;> with_reducible rfl)
 try simp only [Act.put, zl4, zl5, zl6]
 refine AnyBut.tk (i := 3) (v := ?_) rfl (by as_aux_lemma => kernel_rfl) (fun _ _ _ h => h) hHeld (by rfl) ?_ ?_
 rotate_left
 focus (intro w hSw; (try dsimp only at hSw); go_simp <;> with_reducible rfl)
 try simp only [Act.put, zl4, zl5, zl6]
 refine AnyBut.tk (i := 4) (v := ?_) rfl (by as_aux_lemma => kernel_rfl) (fun _ _ _ h => h) hHeld (by rfl) ?_ ?_
 rotate_left
 focus (intro w hSw; (try dsimp only at hSw); go_simp <;> with_reducible rfl)
 try simp only [Act.put, zl4, zl5, zl6]
 refine AnyBut.tk (i := 5) (v := ?_) rfl (by as_aux_lemma => kernel_rfl) (fun _ _ _ h => h) hHeld (by rfl) ?_ ?_
 rotate_left
 focus (intro w hSw; (try dsimp only at hSw); go_simp <;> with_reducible rfl)
 try simp only [Act.put, zl4, zl5, zl6]
 refine AnyBut.tk (i := 6) (v := ?_) rfl (by as_aux_lemma => kernel_rfl) (fun _ _ _ h => h) hHeld (by rfl) ?_ ?_
 rotate_left
 focus (intro w hSw; (try dsimp only at hSw); go_simp <;> with_reducible rfl)
 try simp only [Act.put, zl4, zl5, zl6]
 refine AnyBut.tk (i := 7) (v := ?_) rfl (by as_aux_lemma => kernel_rfl) (fun _ _ _ h => h) hHeld (by rfl) ?_ ?_
 rotate_left
 focus (intro w hSw; (try dsimp only at hSw); go_simp <;> with_reducible rfl)
 try simp only [Act.put, zl4, zl5, zl6]
 refine AnyBut.tk (i := 8) (v := ?_) rfl (by as_aux_lemma => kernel_rfl) (fun _ _ _ h => h) hHeld (by rfl) ?_ ?_
 rotate_left
 focus (intro w hSw; (try dsimp only at hSw); go_simp <;> with_reducible rfl)
 try simp only [Act.put, zl4, zl5, zl6]
 refine AnyBut.tk (i := 9) (v := ?_) rfl (by as_aux_lemma => kernel_rfl) (fun _ _ _ h => h) hHeld (by rfl) ?_ ?_
 rotate_left
 focus (intro w hSw; (try dsimp only at hSw); go_simp <;> with_reducible rfl)
 try simp only [Act.put, zl4, zl5, zl6]
 refine AnyBut.tk (i := 10) (v := ?_) rfl (by as_aux_lemma => kernel_rfl) (fun _ _ _ h => h) hHeld (by rfl) ?_ ?_
 rotate_left
 focus (intro w hSw; (try dsimp only at hSw); go_simp <;> with_reducible rfl)
 try simp only [Act.put, zl4, zl5, zl6]
 refine AnyBut.tk (i := 11) (v := ?_) rfl (by as_aux_lemma => kernel_rfl) (fun _ _ _ h => h) hHeld (by rfl) ?_ ?_
 rotate_left
 focus (intro w hSw; (try dsimp only at hSw); go_simp <;> with_reducible rfl)
 try simp only [Act.put, zl4, zl5, zl6]
 refine AnyBut.tk (i := 12) (v := ?_) rfl (by as_aux_lemma => kernel_rfl) (fun _ _ _ h => h) hHeld (by rfl) ?_ ?_
 rotate_left
 focus (intro w hSw; (try dsimp only at hSw); go_simp <;> with_reducible rfl)
 try simp only [Act.put, zl4, zl5, zl6]
 refine AnyBut.one (i := 13) (by as_aux_lemma => kernel_rfl) rfl (fun K hK => ?_)
 go_simp
 go_at_call 53
 refine (fixup_any W3.drew r cb 3 x y st2s0 st2p2).mono ?_
 rintro e W4 ⟨rfl, hb4⟩
 have hS4 := hSof W4 (hdr.trans hb4)
 have st4 := (Hst2.out.old hdr).old hb4
 obtain ⟨r0, r1, r2, r3, r4⟩ := st4.res.five
 have g0 := st4.res.free 0
 have g1 := st4.res.free 1
 have g2 := st4.res.free 2
 have g3 := st4.res.free 3
 have g4 := st4.res.free 4
 have lq := st4.res.lt
 have Hst4 := Lib.hid st4
 clear st4 hb4
 refine hK.out _ _ (hS4) (fun hHeld => ?_)
 clear hK K
 try simp only [Act.put, zl4, zl5, zl6]
 refine AnyBut.tk (i := 14) (v := ?_) rfl (by as_aux_lemma => kernel_rfl) (fun _ _ _ h => h) hHeld (by rfl) ?_ ?_
 rotate_left
 focus (intro w hSw; (try dsimp only at hSw); go_simp <;> with_reducible rfl)
 try simp only [Act.put, zl4, zl5, zl6]
 refine AnyBut.tk (i := 15) (v := ?_) rfl (by as_aux_lemma => kernel_rfl) (fun _ _ _ h => h) hHeld (by rfl) ?_ ?_
 rotate_left
 focus (intro w hSw; (try dsimp only at hSw); go_simp <;> with_reducible rfl)
 try simp only [Act.put, zl4, zl5, zl6]
 refine AnyBut.one (i := 16) (by as_aux_lemma => kernel_rfl) rfl (fun K hK => ?_)
 go_simp
 refine hK.out _ _ (hSet _ hS4 _ _ _ _ _) (fun hHeld => ?_)
 clear hK K
 try simp only [Act.put, zl4, zl5, zl6]
 refine AnyBut.last (by as_aux_lemma => kernel_rfl) rfl (by as_aux_lemma => kernel_rfl) (fun K hK => ?_)
 go_simp
 refine hK.out _ _ ?_
 clear hK K
 try simp only [Act.put, zl4, zl5, zl6]
 go_wp2_with fail
 refine bodyPost_ret (v := .tuple #[fixV 3 x y false false, .nilIface]) ?_ rfl ⟨rfl, ?_⟩
 ·rw [results_cell_tmp rfl]
  go_simp
 ·have hge : w.heap.size ≤ r + 1 := by have := Hst4.out.at_; omega
  exact (((((Hst4.out.bel.setCell (p := ⟨r + 1, 0, none⟩) hge _).setCell (p := ⟨r + 1, 1, none⟩) hge _).setCell (p := ⟨r + 1, 2, none⟩) hge _).setCell (p := ⟨r + 1, 3, none⟩) hge _).setCell (p := ⟨r + 1, 4, none⟩) hge _)
theorem calc3_enm {gx gy : Bool} {PA PB : TypeId → Value → Prop} {o1 f1 o2 f2 : Int} {m1 m2 : Nat} (hI1 : ∀ tA pA, PA tA pA → ∃ q1, (∀ W, Below w.heap.size w W → Calls Tryz.prog 65 #[.iface tA pA] W fun e w' => e = .returned (.iface 144 (.pointer (some ⟨q1, 0, none⟩))) ∧ w' = W) ∧ w.cell? ⟨q1, 2, none⟩ = some (.bool gx))
  (hI2 : ∀ tB pB, PB tB pB → ∃ q2, (∀ W, Below w.heap.size w W → Calls Tryz.prog 66 #[.iface tB pB] W fun e w' => e = .returned (.tuple #[.pointer (some ⟨q2, 0, none⟩), .bool true]) ∧ w' = W) ∧ w.cell? ⟨q2, 2, none⟩ = some (.bool gy)) (hR : ReloE w cb (.iface xt xv) (.slice aa an ac) 3 id a) (hA : FwdC w y') (hF : FieldC w (.iface xt xv) (.slice aa an ac) y' fun v _ => ∃ tA pA tB pB, v = .tuple #[.agg (cfC (.iface tA pA) o1 f1 (m1 : Nat)), .agg (cfC (.iface tB pB) o2 f2 (m2 : Nat)), .nilIface] ∧ PA tA pA ∧ PB tB pB) :
  Calls Tryz.prog 44 #[.pointer (some ⟨cb, 0, none⟩), y', bo, rs] w fun e w' => e = .returned (.tuple #[fixV 3 (if gx then 1 else 0) (if gy then 1 else 0) false false, .nilIface]) ∧ Below w.heap.size w w' := by
 obtain ⟨nx, hnx⟩ : ∃ nx : Int, nx = (if gx then 1 else 0) := ⟨_, rfl⟩
 obtain ⟨ny, hny⟩ : ∃ ny : Int, ny = (if gy then 1 else 0) := ⟨_, rfl⟩
 rw [← hnx, ← hny]
 have HNX : Hid (∀ w, Calls Tryz.prog 67 #[.bool gx] w fun e w' => e = .returned (.int .u64 nx) ∧ w' = w) := Lib.hid (by rw [hnx]; exact fun w => boolNum_any w gx)
 have HNY : Hid (∀ w, Calls Tryz.prog 67 #[.bool gy] w fun e w' => e = .returned (.int .u64 ny) ∧ w' = w) := Lib.hid (by rw [hny]; exact fun w => boolNum_any w gy)
 clear hnx hny
 obtain ⟨p0, p1, p2, p3⟩ := hR.blk.four
 have e0 := hR.err
 have lc := hR.blk.lt
 have le := World.block_lt_of_cell? w _ e0
 simp only at le
 have HF := Lib.hid hF
 have HFW := Lib.hid hA
 have HI1 := Lib.hid hI1
 have HI2 := Lib.hid hI2
 clear hR hF hA hI1 hI2
 go_enter Tryz.func44, Tryz.ntmps44
 go_upto_region 5 with fail
 refine wp_world (CSt w cb w.heap.size) (CSt.start w cb) (fun W st => ?_)
 obtain ⟨r, hr⟩ : ∃ r, r = w.heap.size := ⟨_, rfl⟩
 rw [← hr] at st ⊢
 clear hr
 have p0W := (st.bel.cell (p := ⟨cb, 0, none⟩) lc).trans p0
 have p1W := (st.bel.cell (p := ⟨cb, 1, none⟩) lc).trans p1
 have p2W := (st.bel.cell (p := ⟨cb, 2, none⟩) lc).trans p2
 have e0W := (st.bel.cell (p := ⟨4, 0, none⟩) le).trans e0
 have s0W := st.rb.cell 0
 have f0W := st.fb.cell 0
 simp only [List.getElem?_toArray, List.getElem?_cons_zero] at s0W f0W
 have lcW := Nat.lt_of_lt_of_le lc st.bel.size
 have leW := Nat.lt_of_lt_of_le le st.bel.size
 have lrW := st.rb.lt
 have lfW := st.fb.lt
 have Hst := Lib.hid st
 go_wp2_with fail
 refine (HFW.out W Hst.out.bel).mono ?_
 rintro e W1 ⟨rfl, rfl⟩
 obtain ⟨W, rfl⟩ : ∃ z : World, z = W1 := ⟨_, rfl⟩
 clear HFW
 go_wp2_with fail
 refine (HF.out W Hst.out.bel).mono ?_
 rintro e W0 ⟨hb0, v, rfl, tA, pA, tB, pB, rfl, hPA, hPB⟩
 obtain ⟨q1, hU, hx⟩ := HI1.out _ _ hPA
 obtain ⟨q2, hI, hy⟩ := HI2.out _ _ hPB
 have HU := Lib.hid hU
 have HI := Lib.hid hI
 have Hx := Lib.hid hx
 have Hy := Lib.hid hy
 have Lx := World.block_lt_of_cell? w _ hx
 have Ly := World.block_lt_of_cell? w _ hy
 simp only at Lx Ly
 clear hU hI hx hy HI1 HI2
 clear hPA hPB
 go_upto_region 66 with fail
 obtain ⟨W2, hW2⟩ : ∃ z, z = (W0.alloc (.cells (cfC (.iface tA pA) o1 f1 (m1 : Nat)) 137)).alloc (.cells (cfC (.iface tB pB) o2 f2 (m2 : Nat)) 137) := ⟨_, rfl⟩
 rw [← hW2]
 have hb2 : Below W.heap.size W W2 := by rw [hW2]; exact (hb0.alloc hb0.size _).alloc (by have := hb0.size; simp; omega) _
 obtain ⟨lf, hlf⟩ : ∃ z, z = W0.heap.size := ⟨_, rfl⟩
 obtain ⟨tf, htf⟩ : ∃ z, z = W0.heap.size + 1 := ⟨_, rfl⟩
 rw [← htf, ← hlf]
 have hLF : Hid (Blk W2 lf (cfC (.iface tA pA) o1 f1 (m1 : Nat)) 137) := Lib.hid (by rw [hW2, hlf]; exact (Blk.new _ _ _).alloc _)
 have hTF : Hid (Blk W2 tf (cfC (.iface tB pB) o2 f2 (m2 : Nat)) 137) := Lib.hid (by rw [hW2, htf]; exact Blk.newAt _ _ _ (by simp))
 have hne1 : lf ≠ r + 1 := by have := Hst.out.res.lt; have := hb0.size; omega
 have hne2 : tf ≠ r + 1 := by have := Hst.out.res.lt; have := hb0.size; omega
 clear hW2 hb0 hlf htf
 have st2 := Hst.out.old hb2
 have bel2 := st2.bel
 clear st
 have st2p0 := (bel2.cell (p := ⟨cb, 0, none⟩) lc).trans p0
 have st2p1 := (bel2.cell (p := ⟨cb, 1, none⟩) lc).trans p1
 have st2p2 := (bel2.cell (p := ⟨cb, 2, none⟩) lc).trans p2
 have st2e0 := (bel2.cell (p := ⟨4, 0, none⟩) le).trans e0
 have st2s0 := st2.rb.cell 0
 have st2f0 := st2.fb.cell 0
 simp only [List.getElem?_toArray, List.getElem?_cons_zero] at st2s0 st2f0
 have st2lc := Nat.lt_of_lt_of_le lc bel2.size
 have st2le := Nat.lt_of_lt_of_le le bel2.size
 have st2lr := st2.rb.lt
 have st2lf := st2.fb.lt
 obtain ⟨r0, r1, r2, r3, r4⟩ := st2.res.five
 have g0 := st2.res.free 0
 have g1 := st2.res.free 1
 have g2 := st2.res.free 2
 have g3 := st2.res.free 3
 have g4 := st2.res.free 4
 have lq := st2.res.lt
 have Hst2 := Lib.hid st2
 have Hbel2 := Lib.hid bel2
 clear st2 bel2 hb2
 clear p0W p1W p2W e0W s0W f0W lcW leW lrW lfW
 go_wp2_with fail
 refine (is_nil a W2).mono ?_
 rintro e W3 ⟨rfl, rfl⟩
 obtain ⟨la0, la1, la2, la3⟩ := hLF.out.four
 obtain ⟨ta0, ta1, ta2, ta3⟩ := hTF.out.four
 have ll := hLF.out.lt
 have tl := hTF.out.lt
 have aYe := @ta_yes _ _ Tryz.underlying144
 go_wp2_with fail
 refine (HU.out W3 Hbel2.out).mono ?_
 rintro e w9 ⟨rfl, rfl⟩
 obtain ⟨W3, rfl⟩ : ∃ z : World, z = w9 := ⟨_, rfl⟩
 go_wp2_with fail
 refine (HI.out W3 Hbel2.out).mono ?_
 rintro e w9 ⟨rfl, rfl⟩
 obtain ⟨W3, rfl⟩ : ∃ z : World, z = w9 := ⟨_, rfl⟩
 have hx3 := (Hbel2.out.cell (p := ⟨q1, 2, none⟩) Lx).trans Hx.out
 have hy3 := (Hbel2.out.cell (p := ⟨q2, 2, none⟩) Ly).trans Hy.out
 have lx3 := Nat.lt_of_lt_of_le Lx Hbel2.out.size
 have ly3 := Nat.lt_of_lt_of_le Ly Hbel2.out.size
 clear r0 r1 r2 r3 r4 g0 g1 g2 g3 g4 lq la0 la1 la2 la3 ta0 ta1 ta2 ta3 ll tl
 go_wp2_with fail
 have hrr : w.heap.size ≤ r := Nat.le_of_eq Hst2.out.at_.symm
 have n1 : ¬ q1 = r + 1 := by have := Lx; omega
 have n2 : ¬ q2 = r + 1 := by have := Ly; omega
 have n3 : ¬ r + 2 = r + 1 := by omega
 have hdr : Below W3.heap.size W3 W3.drew := (Below.refl _ _).drew
 have hS3 : W3.drew.cell? ⟨r + 2, 0, none⟩ = some (.func (.func 53) #[] #[.pointer (some ⟨r, 0, none⟩)]) ∧ W3.drew.cell? ⟨q1, 2, none⟩ = some (.bool gx) ∧ W3.drew.cell? ⟨q2, 2, none⟩ = some (.bool gy) := ⟨st2f0, hx3, hy3⟩
 have hSof : ∀ w', Below W3.heap.size W3 w' → w'.cell? ⟨r + 2, 0, none⟩ = some (.func (.func 53) #[] #[.pointer (some ⟨r, 0, none⟩)]) ∧ w'.cell? ⟨q1, 2, none⟩ = some (.bool gx) ∧ w'.cell? ⟨q2, 2, none⟩ = some (.bool gy) :=
  fun w' hb => ⟨(hb.cell (p := ⟨r + 2, 0, none⟩) st2lf).trans st2f0, (hb.cell (p := ⟨q1, 2, none⟩) lx3).trans hx3, (hb.cell (p := ⟨q2, 2, none⟩) ly3).trans hy3⟩
 have hSet : ∀ w' : World, (w'.cell? ⟨r + 2, 0, none⟩ = some (.func (.func 53) #[] #[.pointer (some ⟨r, 0, none⟩)]) ∧ w'.cell? ⟨q1, 2, none⟩ = some (.bool gx) ∧ w'.cell? ⟨q2, 2, none⟩ = some (.bool gy)) → ∀ a0 a1 a2 a3 a4 : Value, ((((((w'.setCell ⟨r + 1, 0, none⟩ a0).setCell ⟨r + 1, 1, none⟩ a1).setCell ⟨r + 1, 2, none⟩ a2).setCell ⟨r + 1, 3, none⟩ a3).setCell ⟨r + 1, 4, none⟩ a4).cell? ⟨r + 2, 0, none⟩ = some (.func (.func 53) #[] #[.pointer (some ⟨r, 0, none⟩)]) ∧ (((((w'.setCell ⟨r + 1, 0, none⟩ a0).setCell ⟨r + 1, 1, none⟩ a1).setCell ⟨r + 1, 2, none⟩ a2).setCell ⟨r + 1, 3, none⟩ a3).setCell ⟨r + 1, 4, none⟩ a4).cell? ⟨q1, 2, none⟩ = some (.bool gx) ∧ (((((w'.setCell ⟨r + 1, 0, none⟩ a0).setCell ⟨r + 1, 1, none⟩ a1).setCell ⟨r + 1, 2, none⟩ a2).setCell ⟨r + 1, 3, none⟩ a3).setCell ⟨r + 1, 4, none⟩ a4).cell? ⟨q2, 2, none⟩ = some (.bool gy)) :=
  fun w' h a0 a1 a2 a3 a4 => ⟨(cell_five w' (p := ⟨r + 2, 0, none⟩) n3 a0 a1 a2 a3 a4).trans h.1, (cell_five w' (p := ⟨q1, 2, none⟩) n1 a0 a1 a2 a3 a4).trans h.2.1, (cell_five w' (p := ⟨q2, 2, none⟩) n2 a0 a1 a2 a3 a4).trans h.2.2⟩
 refine AnyBut.start (S := (fun w' : World => w'.cell? ⟨r + 2, 0, none⟩ = some (.func (.func 53) #[] #[.pointer (some ⟨r, 0, none⟩)]) ∧ w'.cell? ⟨q1, 2, none⟩ = some (.bool gx) ∧ w'.cell? ⟨q2, 2, none⟩ = some (.bool gy))) (t := 15) (by as_aux_lemma => kernel_rfl) (hS3) (fun hHeld => ?_)
 refine AnyBut.tk (i := 0) (v := ?_) rfl (by as_aux_lemma => kernel_rfl) (fun _ _ _ h => h) hHeld (by rfl) ?_ ?_
 rotate_left
 focus (intro w hSw; (try dsimp only at hSw); go_simp <;> with_reducible rfl)
 try simp only [Act.put, zl4, zl5, zl6]
 refine AnyBut.tk (i := 1) (v := ?_) rfl (by as_aux_lemma => kernel_rfl) (fun _ _ _ h => h) hHeld (by rfl) ?_ ?_
 rotate_left
 focus (intro w hSw; (try dsimp only at hSw); go_simp <;> with_reducible rfl)
 try simp only [Act.put, zl4, zl5, zl6]
 refine AnyBut.tk (i := 2) (v := ?_) rfl (by as_aux_lemma => kernel_rfl) (fun _ _ _ h => h) hHeld (by rfl) ?_ ?_
 rotate_left
 focus (intro w hSw; (try dsimp only at hSw); go_simp <;> with_reducible rfl)
 try simp only [Act.put, zl4, zl5, zl6]
 refine AnyBut.tk (i := 3) (v := ?_) rfl (by as_aux_lemma => kernel_rfl) (fun _ _ _ h => h) hHeld (by rfl) ?_ ?_
 rotate_left
 focus (intro w hSw; (try dsimp only at hSw); go_simp <;> with_reducible rfl)
 try simp only [Act.put, zl4, zl5, zl6]
 refine AnyBut.tk (i := 4) (v := ?_) rfl (by as_aux_lemma => kernel_rfl) (fun _ _ _ h => h) hHeld (by rfl) ?_ ?_
 rotate_left
 focus (intro w hSw; (try dsimp only at hSw); go_simp <;> with_reducible rfl)
 try simp only [Act.put, zl4, zl5, zl6]
 refine AnyBut.tk (i := 6) (v := ?_) rfl (by as_aux_lemma => kernel_rfl) (fun _ _ _ h => h) hHeld (by rfl) ?_ ?_
 rotate_left
 focus (intro w hSw; (try dsimp only at hSw); go_simp <;> with_reducible rfl)
 try simp only [Act.put, zl4, zl5, zl6]
 refine AnyBut.tk (i := 7) (v := ?_) rfl (by as_aux_lemma => kernel_rfl) (fun _ _ _ h => h) hHeld (by rfl) ?_ ?_
 rotate_left
 focus (intro w hSw; (try dsimp only at hSw); go_simp <;> with_reducible rfl)
 try simp only [Act.put, zl4, zl5, zl6]
 refine AnyBut.tk (i := 8) (v := ?_) rfl (by as_aux_lemma => kernel_rfl) (fun _ _ _ h => h) hHeld (by rfl) ?_ ?_
 rotate_left
 focus (intro w hSw; (try dsimp only at hSw); go_simp <;> with_reducible rfl)
 try simp only [Act.put, zl4, zl5, zl6]
 refine AnyBut.tk (i := 9) (v := ?_) rfl (by as_aux_lemma => kernel_rfl) (fun _ _ _ h => h) hHeld (by rfl) ?_ ?_
 rotate_left
 focus (intro w hSw; (try dsimp only at hSw); go_simp <;> with_reducible rfl)
 try simp only [Act.put, zl4, zl5, zl6]
 refine AnyBut.one (i := 5) (by as_aux_lemma => kernel_rfl) rfl (fun K hK => ?_)
 go_simp
 go_at_call 67
 refine (HNX.out W3.drew).mono ?_
 rintro e w9 ⟨rfl, rfl⟩
 refine hK.out _ _ (hS3) (fun hHeld => ?_)
 clear hK K
 try simp only [Act.put, zl4, zl5, zl6]
 refine AnyBut.one (i := 10) (by as_aux_lemma => kernel_rfl) rfl (fun K hK => ?_)
 go_simp
 go_at_call 67
 refine (HNY.out W3.drew).mono ?_
 rintro e w9 ⟨rfl, rfl⟩
 refine hK.out _ _ (hS3) (fun hHeld => ?_)
 clear hK K
 try simp only [Act.put, zl4, zl5, zl6]
 refine AnyBut.one (i := 11) (by as_aux_lemma => kernel_rfl) rfl (fun K hK => ?_)
 go_simp
 go_at_call 53
 refine (fixup_any W3.drew r cb 3 nx ny st2s0 st2p2).mono ?_
 rintro e W4 ⟨rfl, hb4⟩
 have hS4 := hSof W4 (hdr.trans hb4)
 have st4 := (Hst2.out.old hdr).old hb4
 obtain ⟨r0, r1, r2, r3, r4⟩ := st4.res.five
 have g0 := st4.res.free 0
 have g1 := st4.res.free 1
 have g2 := st4.res.free 2
 have g3 := st4.res.free 3
 have g4 := st4.res.free 4
 have lq := st4.res.lt
 have Hst4 := Lib.hid st4
 clear st4 hb4
 refine hK.out _ _ (hS4) (fun hHeld => ?_)
 clear hK K
 try simp only [Act.put, zl4, zl5, zl6]
 refine AnyBut.tk (i := 12) (v := ?_) rfl (by as_aux_lemma => kernel_rfl) (fun _ _ _ h => h) hHeld (by rfl) ?_ ?_
 rotate_left
 focus (intro w hSw; (try dsimp only at hSw); go_simp <;> with_reducible rfl)
 try simp only [Act.put, zl4, zl5, zl6]
 refine AnyBut.tk (i := 13) (v := ?_) rfl (by as_aux_lemma => kernel_rfl) (fun _ _ _ h => h) hHeld (by rfl) ?_ ?_
 rotate_left
 focus (intro w hSw; (try dsimp only at hSw); go_simp <;> with_reducible rfl)
 try simp only [Act.put, zl4, zl5, zl6]
 refine AnyBut.one (i := 14) (by as_aux_lemma => kernel_rfl) rfl (fun K hK => ?_)
 go_simp
 refine hK.out _ _ (hSet _ hS4 _ _ _ _ _) (fun hHeld => ?_)
 clear hK K
 try simp only [Act.put, zl4, zl5, zl6]
 refine AnyBut.last (by as_aux_lemma => kernel_rfl) rfl (by as_aux_lemma => kernel_rfl) (fun K hK => ?_)
 go_simp
 refine hK.out _ _ ?_
 clear hK K
 try simp only [Act.put, zl4, zl5, zl6]
 go_wp2_with fail
 refine bodyPost_ret (v := .tuple #[fixV 3 nx ny false false, .nilIface]) ?_ rfl ⟨rfl, ?_⟩
 ·rw [results_cell_tmp rfl]
  go_simp
 ·have hge : w.heap.size ≤ r + 1 := by have := Hst4.out.at_; omega
  exact (((((Hst4.out.bel.setCell (p := ⟨r + 1, 0, none⟩) hge _).setCell (p := ⟨r + 1, 1, none⟩) hge _).setCell (p := ⟨r + 1, 2, none⟩) hge _).setCell (p := ⟨r + 1, 3, none⟩) hge _).setCell (p := ⟨r + 1, 4, none⟩) hge _)
end
end Go.Proofs.YtfilbgmbmlmdbaaGreatDoor
