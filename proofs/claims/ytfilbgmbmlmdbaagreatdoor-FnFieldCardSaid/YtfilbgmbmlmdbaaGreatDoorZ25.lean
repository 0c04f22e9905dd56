/- A relocation of a field that is there: further kinds: the package's own function. Nothing is claimed here. -/
import Derived.Test.YtfilbgmbmlmdbaaGreatDoorZ24
set_option linter.unusedSimpArgs false
set_option linter.unusedVariables false
set_option maxRecDepth 1000000
set_option maxHeartbeats 16000000
namespace Go.Proofs.YtfilbgmbmlmdbaaGreatDoor
open Go.RowKit Go.MapKept
section
variable {w : World} {cb : Nat} {xt : TypeId} {xv y id bo rs : Value} {aa : Option Addr} {an ac : Nat} {a : Addr}
theorem calc1_yes {PA PB : TypeId → Value → Prop} {o1 f1 o2 f2 : Int} {m1 m2 : Nat} {s1 s2 : Int} (h1 : 0 ≤ s1 ∧ s1 ≤ 4294967295) (h2 : 0 ≤ s2 ∧ s2 ≤ 4294967295) (hs1 : ∀ tA pA, PA tA pA → SizeC w (.iface tA pA) s1) (hs2 : ∀ tB pB, PB tB pB → SizeC w (.iface tB pB) s2) (hR : ReloE w cb (.iface xt xv) (.slice aa an ac) 1 id a) (hA : FwdC w y) (hF : FieldC w (.iface xt xv) (.slice aa an ac) y fun v _ => ∃ tA pA tB pB, v = .tuple #[.agg (cfC (.iface tA pA) o1 f1 (m1 : Nat)), .agg (cfC (.iface tB pB) o2 f2 (m2 : Nat)), .nilIface] ∧ PA tA pA ∧ PB tB pB) :
  Calls Tryz.prog 44 #[.pointer (some ⟨cb, 0, none⟩), y, bo, rs] w fun e w' => e = .returned (.tuple #[fixV 1 s1 s2 false (decide (0 < m1)), .nilIface]) ∧ Below w.heap.size w w' := by
 obtain ⟨p0, p1, p2, p3⟩ := hR.blk.four
 have e0 := hR.err
 have lc := hR.blk.lt
 have le := World.block_lt_of_cell? w _ e0
 simp only at le
 have HF := Lib.hid hF
 have HFW := Lib.hid hA
 have HS2 := Lib.hid hs2
 have HS1 := Lib.hid hs1
 clear hR hF hA hs2 hs1
 go_enter Tryz.func44, Tryz.ntmps44
 go_upto_region 5 with fail
 refine wp_world (CSt w cb w.heap.size) (CSt.start w cb) (fun W st => ?_)
 obtain ⟨r, hr⟩ : ∃ r, r = w.heap.size := ⟨_, rfl⟩
 rw [← hr] at st ⊢
 clear hr
 have p0W := (st.bel.cell (p := ⟨cb, 0, none⟩) lc).trans p0
 have p1W := (st.bel.cell (p := ⟨cb, 1, none⟩) lc).trans p1
 have p2W := (st.bel.cell (p := ⟨cb, 2, none⟩) lc).trans p2
 have e0W := (st.bel.cell (p := ⟨4, 0, none⟩) le).trans e0
 have s0W := st.rb.cell 0
 have f0W := st.fb.cell 0
 simp only [List.getElem?_toArray, List.getElem?_cons_zero] at s0W f0W
 have lcW := Nat.lt_of_lt_of_le lc st.bel.size
 have leW := Nat.lt_of_lt_of_le le st.bel.size
 have lrW := st.rb.lt
 have lfW := st.fb.lt
 have Hst := Lib.hid st
 go_wp2_with fail
 refine (HFW.out W Hst.out.bel).mono ?_
 rintro e W1 ⟨rfl, rfl⟩
 obtain ⟨W, rfl⟩ : ∃ z : World, z = W1 := ⟨_, rfl⟩
 clear HFW
 go_wp2_with fail
 refine (HF.out W Hst.out.bel).mono ?_
 rintro e W0 ⟨hb0, v, rfl, tA, pA, tB, pB, rfl, hPA, hPB⟩
 replace HS1 := Lib.hid (HS1.out _ _ hPA)
 replace HS2 := Lib.hid (HS2.out _ _ hPB)
 clear hPA hPB
 go_upto_region 66 with fail
 obtain ⟨W2, hW2⟩ : ∃ z, z = (W0.alloc (.cells (cfC (.iface tA pA) o1 f1 (m1 : Nat)) 137)).alloc (.cells (cfC (.iface tB pB) o2 f2 (m2 : Nat)) 137) := ⟨_, rfl⟩
 rw [← hW2]
 have hb2 : Below W.heap.size W W2 := by rw [hW2]; exact (hb0.alloc hb0.size _).alloc (by have := hb0.size; simp; omega) _
 obtain ⟨lf, hlf⟩ : ∃ z, z = W0.heap.size := ⟨_, rfl⟩
 obtain ⟨tf, htf⟩ : ∃ z, z = W0.heap.size + 1 := ⟨_, rfl⟩
 rw [← htf, ← hlf]
 have hLF : Hid (Blk W2 lf (cfC (.iface tA pA) o1 f1 (m1 : Nat)) 137) := Lib.hid (by rw [hW2, hlf]; exact (Blk.new _ _ _).alloc _)
 have hTF : Hid (Blk W2 tf (cfC (.iface tB pB) o2 f2 (m2 : Nat)) 137) := Lib.hid (by rw [hW2, htf]; exact Blk.newAt _ _ _ (by simp))
 have hne1 : lf ≠ r + 1 := by have := Hst.out.res.lt; have := hb0.size; omega
 have hne2 : tf ≠ r + 1 := by have := Hst.out.res.lt; have := hb0.size; omega
 clear hW2 hb0 hlf htf
 have st2 := Hst.out.old hb2
 have bel2 := st2.bel
 clear st
 have st2p0 := (bel2.cell (p := ⟨cb, 0, none⟩) lc).trans p0
 have st2p1 := (bel2.cell (p := ⟨cb, 1, none⟩) lc).trans p1
 have st2p2 := (bel2.cell (p := ⟨cb, 2, none⟩) lc).trans p2
 have st2e0 := (bel2.cell (p := ⟨4, 0, none⟩) le).trans e0
 have st2s0 := st2.rb.cell 0
 have st2f0 := st2.fb.cell 0
 simp only [List.getElem?_toArray, List.getElem?_cons_zero] at st2s0 st2f0
 have st2lc := Nat.lt_of_lt_of_le lc bel2.size
 have st2le := Nat.lt_of_lt_of_le le bel2.size
 have st2lr := st2.rb.lt
 have st2lf := st2.fb.lt
 obtain ⟨r0, r1, r2, r3, r4⟩ := st2.res.five
 have g0 := st2.res.free 0
 have g1 := st2.res.free 1
 have g2 := st2.res.free 2
 have g3 := st2.res.free 3
 have g4 := st2.res.free 4
 have lq := st2.res.lt
 have Hst2 := Lib.hid st2
 have Hbel2 := Lib.hid bel2
 clear st2 bel2 hb2
 clear p0W p1W p2W e0W s0W f0W lcW leW lrW lfW
 go_wp2_with fail
 refine (is_nil a W2).mono ?_
 rintro e W3 ⟨rfl, rfl⟩
 obtain ⟨la0, la1, la2, la3⟩ := hLF.out.four
 have ll := hLF.out.lt
 go_wp2_with fail
 refine (HS1.out W3 (CellsKept.below Hbel2.out)).mono ?_
 rintro e W5 ⟨rfl, hb5⟩
 have hTF5 := hTF.out.old hb5
 obtain ⟨ta0, ta1, ta2, ta3⟩ := hTF5.four
 have tl := hTF5.lt
 have bel5 := Lib.hid (Hbel2.out.trans (hb5.mono Hbel2.out.size))
 have HB5 := Lib.hid hb5
 clear la0 la1 la2 la3 ll hTF5 hb5
 go_wp2_with fail
 refine (HS2.out W5 (CellsKept.below bel5.out)).mono ?_
 rintro e W6 ⟨rfl, hb6⟩
 have hb26 := HB5.out.trans (hb6.mono HB5.out.size)
 have st6 := Hst2.out.old hb26
 have st6p2 := (st6.bel.cell (p := ⟨cb, 2, none⟩) lc).trans p2
 have st6s0 := st6.rb.cell 0
 have st6f0 := st6.fb.cell 0
 simp only [List.getElem?_toArray, List.getElem?_cons_zero] at st6s0 st6f0
 have st6lr := st6.rb.lt
 have st6lf := st6.fb.lt
 have st6lc := Nat.lt_of_lt_of_le lc st6.bel.size
 clear st6 st2s0 st2f0 st2p2 st2p0 st2p1 st2e0 st2lc st2le st2lr st2lf
 have H26 := Lib.hid hb26
 clear ta0 ta1 ta2 ta3 tl hb6 hb26
 go_wp2_with fail
 refine (fixup_any W6 r cb 1 s1 s2 st6s0 st6p2).mono ?_
 rintro e W7 ⟨rfl, hb7⟩
 have H27 := Lib.hid (H26.out.trans (hb7.mono H26.out.size))
 clear hb7
 go_wp2_with fail
 refine (fin_any W7 lf 1 s1 s2 (hLF.out.old H27.out)).mono ?_
 rintro e W4 ⟨rfl, hb8⟩
 have hb4 := H27.out.trans (hb8.mono H27.out.size)
 clear hb8
 have st4 := Hst2.out.old hb4
 clear r0 r1 r2 r3 r4 g0 g1 g2 g3 g4 lq
 obtain ⟨r0, r1, r2, r3, r4⟩ := st4.res.five
 have g0 := st4.res.free 0
 have g1 := st4.res.free 1
 have g2 := st4.res.free 2
 have g3 := st4.res.free 3
 have g4 := st4.res.free 4
 have lq := st4.res.lt
 have Hst4 := Lib.hid st4
 clear st4 hb4
 go_wp2_with fail
 refine bodyPost_ret (v := .tuple #[fixV 1 s1 s2 false (decide (0 < m1)), .nilIface]) ?_ rfl ⟨rfl, ?_⟩
 ·rw [results_cell_tmp rfl]
  go_simp
 ·have hge : w.heap.size ≤ r + 1 := by have := Hst4.out.at_; omega
  exact (((((Hst4.out.bel.setCell (p := ⟨r + 1, 0, none⟩) hge _).setCell (p := ⟨r + 1, 1, none⟩) hge _).setCell (p := ⟨r + 1, 2, none⟩) hge _).setCell (p := ⟨r + 1, 3, none⟩) hge _).setCell (p := ⟨r + 1, 4, none⟩) hge _)
end
section
variable {w : World} {cb : Nat} {xt : TypeId} {xv y id bo rs : Value} {aa : Option Addr} {an ac : Nat} {a : Addr}
theorem calc5_yes {PA PB : TypeId → Value → Prop} {o1 f1 o2 f2 : Int} {m1 m2 : Nat} {s2 q : Nat} (hsz : s2 ≤ 200000) (hq : q = (if 0 < m2 then m2 else 8 * s2)) (hs2 : ∀ tB pB, PB tB pB → SizeC w (.iface tB pB) (s2 : Nat)) (hR : ReloE w cb (.iface xt xv) (.slice aa an ac) 5 id a) (hA : FwdC w y) (hF : FieldC w (.iface xt xv) (.slice aa an ac) y fun v _ => ∃ tA pA tB pB, v = .tuple #[.agg (cfC (.iface tA pA) o1 f1 (m1 : Nat)), .agg (cfC (.iface tB pB) o2 f2 (m2 : Nat)), .nilIface] ∧ PA tA pA ∧ PB tB pB) :
  Calls Tryz.prog 44 #[.pointer (some ⟨cb, 0, none⟩), y, bo, rs] w fun e w' => e = .returned (.tuple #[fixV 5 0 ((64 - (q : Int)) % 4294967296) false true, .nilIface]) ∧ Below w.heap.size w w' := by
 obtain ⟨p0, p1, p2, p3⟩ := hR.blk.four
 have e0 := hR.err
 have lc := hR.blk.lt
 have le := World.block_lt_of_cell? w _ e0
 simp only at le
 have HF := Lib.hid hF
 have HFW := Lib.hid hA
 have HS2 := Lib.hid hs2
 have HQ := Lib.hid hq
 clear hR hF hA hs2 hq
 go_enter Tryz.func44, Tryz.ntmps44
 go_upto_region 5 with fail
 refine wp_world (CSt w cb w.heap.size) (CSt.start w cb) (fun W st => ?_)
 obtain ⟨r, hr⟩ : ∃ r, r = w.heap.size := ⟨_, rfl⟩
 rw [← hr] at st ⊢
 clear hr
 have p0W := (st.bel.cell (p := ⟨cb, 0, none⟩) lc).trans p0
 have p1W := (st.bel.cell (p := ⟨cb, 1, none⟩) lc).trans p1
 have p2W := (st.bel.cell (p := ⟨cb, 2, none⟩) lc).trans p2
 have e0W := (st.bel.cell (p := ⟨4, 0, none⟩) le).trans e0
 have s0W := st.rb.cell 0
 have f0W := st.fb.cell 0
 simp only [List.getElem?_toArray, List.getElem?_cons_zero] at s0W f0W
 have lcW := Nat.lt_of_lt_of_le lc st.bel.size
 have leW := Nat.lt_of_lt_of_le le st.bel.size
 have lrW := st.rb.lt
 have lfW := st.fb.lt
 have Hst := Lib.hid st
 go_wp2_with fail
 refine (HFW.out W Hst.out.bel).mono ?_
 rintro e W1 ⟨rfl, rfl⟩
 obtain ⟨W, rfl⟩ : ∃ z : World, z = W1 := ⟨_, rfl⟩
 clear HFW
 go_wp2_with fail
 refine (HF.out W Hst.out.bel).mono ?_
 rintro e W0 ⟨hb0, v, rfl, tA, pA, tB, pB, rfl, hPA, hPB⟩
 replace HS2 := Lib.hid (HS2.out _ _ hPB)
 clear hPA hPB
 go_upto_region 66 with fail
 obtain ⟨W2, hW2⟩ : ∃ z, z = (W0.alloc (.cells (cfC (.iface tA pA) o1 f1 (m1 : Nat)) 137)).alloc (.cells (cfC (.iface tB pB) o2 f2 (m2 : Nat)) 137) := ⟨_, rfl⟩
 rw [← hW2]
 have hb2 : Below W.heap.size W W2 := by rw [hW2]; exact (hb0.alloc hb0.size _).alloc (by have := hb0.size; simp; omega) _
 obtain ⟨lf, hlf⟩ : ∃ z, z = W0.heap.size := ⟨_, rfl⟩
 obtain ⟨tf, htf⟩ : ∃ z, z = W0.heap.size + 1 := ⟨_, rfl⟩
 rw [← htf, ← hlf]
 have hLF : Hid (Blk W2 lf (cfC (.iface tA pA) o1 f1 (m1 : Nat)) 137) := Lib.hid (by rw [hW2, hlf]; exact (Blk.new _ _ _).alloc _)
 have hTF : Hid (Blk W2 tf (cfC (.iface tB pB) o2 f2 (m2 : Nat)) 137) := Lib.hid (by rw [hW2, htf]; exact Blk.newAt _ _ _ (by simp))
 have hne1 : lf ≠ r + 1 := by have := Hst.out.res.lt; have := hb0.size; omega
 have hne2 : tf ≠ r + 1 := by have := Hst.out.res.lt; have := hb0.size; omega
 clear hW2 hb0 hlf htf
 have st2 := Hst.out.old hb2
 have bel2 := st2.bel
 clear st
 have st2p0 := (bel2.cell (p := ⟨cb, 0, none⟩) lc).trans p0
 have st2p1 := (bel2.cell (p := ⟨cb, 1, none⟩) lc).trans p1
 have st2p2 := (bel2.cell (p := ⟨cb, 2, none⟩) lc).trans p2
 have st2e0 := (bel2.cell (p := ⟨4, 0, none⟩) le).trans e0
 have st2s0 := st2.rb.cell 0
 have st2f0 := st2.fb.cell 0
 simp only [List.getElem?_toArray, List.getElem?_cons_zero] at st2s0 st2f0
 have st2lc := Nat.lt_of_lt_of_le lc bel2.size
 have st2le := Nat.lt_of_lt_of_le le bel2.size
 have st2lr := st2.rb.lt
 have st2lf := st2.fb.lt
 obtain ⟨r0, r1, r2, r3, r4⟩ := st2.res.five
 have g0 := st2.res.free 0
 have g1 := st2.res.free 1
 have g2 := st2.res.free 2
 have g3 := st2.res.free 3
 have g4 := st2.res.free 4
 have lq := st2.res.lt
 have Hst2 := Lib.hid st2
 have Hbel2 := Lib.hid bel2
 clear st2 bel2 hb2
 clear p0W p1W p2W e0W s0W f0W lcW leW lrW lfW
 go_wp2_with fail
 refine (is_nil a W2).mono ?_
 rintro e W3 ⟨rfl, rfl⟩
 have HSB := Lib.hid (sizeBits_any hTF.out (fun W hW => HS2.out W ((CellsKept.below Hbel2.out).trans hW)) hsz)
 rw [← HQ.out] at HSB
 clear HQ
 go_wp2_with fail
 refine HSB.out.mono ?_
 rintro e W6 ⟨rfl, hb26⟩
 clear HSB
 have st6 := Hst2.out.old hb26
 have st6p2 := (st6.bel.cell (p := ⟨cb, 2, none⟩) lc).trans p2
 have st6s0 := st6.rb.cell 0
 have st6f0 := st6.fb.cell 0
 simp only [List.getElem?_toArray, List.getElem?_cons_zero] at st6s0 st6f0
 have st6lr := st6.rb.lt
 have st6lf := st6.fb.lt
 have st6lc := Nat.lt_of_lt_of_le lc st6.bel.size
 clear st6 st2s0 st2f0 st2p2 st2p0 st2p1 st2e0 st2lc st2le st2lr st2lf
 have H26 := Lib.hid hb26
 clear hb26
 go_wp2_with fail
 refine (shift_any W6 r cb 5 0 ((64 - (q : Int)) % 4294967296) st6s0 st6p2).mono ?_
 rintro e W4 ⟨rfl, hb8⟩
 have hb4 := H26.out.trans (hb8.mono H26.out.size)
 clear hb8
 have st4 := Hst2.out.old hb4
 clear r0 r1 r2 r3 r4 g0 g1 g2 g3 g4 lq
 obtain ⟨r0, r1, r2, r3, r4⟩ := st4.res.five
 have g0 := st4.res.free 0
 have g1 := st4.res.free 1
 have g2 := st4.res.free 2
 have g3 := st4.res.free 3
 have g4 := st4.res.free 4
 have lq := st4.res.lt
 have Hst4 := Lib.hid st4
 clear st4 hb4
 go_wp2_with fail
 refine bodyPost_ret (v := .tuple #[fixV 5 0 ((64 - (q : Int)) % 4294967296) false true, .nilIface]) ?_ rfl ⟨rfl, ?_⟩
 ·rw [results_cell_tmp rfl]
  go_simp
 ·have hge : w.heap.size ≤ r + 1 := by have := Hst4.out.at_; omega
  exact (((((Hst4.out.bel.setCell (p := ⟨r + 1, 0, none⟩) hge _).setCell (p := ⟨r + 1, 1, none⟩) hge _).setCell (p := ⟨r + 1, 2, none⟩) hge _).setCell (p := ⟨r + 1, 3, none⟩) hge _).setCell (p := ⟨r + 1, 4, none⟩) hge _)
end
end Go.Proofs.YtfilbgmbmlmdbaaGreatDoor
