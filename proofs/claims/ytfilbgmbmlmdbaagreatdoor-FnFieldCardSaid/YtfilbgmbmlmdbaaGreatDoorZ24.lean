/- A relocation of a field that is there: the closures, the first kinds: the package's own function. Nothing is claimed here. -/
import Derived.Test.YtfilbgmbmlmdbaaGreatDoorZ22
set_option linter.unusedSimpArgs false
set_option linter.unusedVariables false
set_option maxRecDepth 1000000
set_option maxHeartbeats 16000000
namespace Go.Proofs.YtfilbgmbmlmdbaaGreatDoor
open Go.RowKit Go.MapKept
theorem fin_any (w : World) (lf : Nat) (k a b : Int) {v : Value} {o bo : Int} {ab : Nat} (hl : Blk w lf (cfC v o bo (ab : Nat)) 137) :
  Calls Tryz.prog 63 #[fixV k a b false false, .nilIface, .pointer (some ⟨lf, 0, none⟩)] w fun e w' => e = .returned (.tuple #[fixV k a b false (decide (0 < ab)), .nilIface]) ∧ Below w.heap.size w w' := by
 obtain ⟨c0, c1, c2, c3⟩ := hl.four
 have lb := hl.lt
 clear hl
 have HB : Hid (∀ (o1 o2 : Obj), Below w.heap.size w ((w.alloc o1).alloc o2)) := Lib.hid fun o1 o2 => ((Below.refl _ _).alloc (Nat.le_refl _) o1).alloc (by simp) o2
 rcases Nat.eq_zero_or_pos ab with rfl | h
 ·go_enter Tryz.func63, Tryz.ntmps63
  go_wp2_with fail
  refine bodyPost_ret (v := .tuple #[fixV k a b false false, .nilIface]) ?_ rfl ⟨rfl, HB.out _ _⟩
  rw [results_cell_tmp rfl]
  go_simp
 ·rw [show decide (0 < ab) = true from decide_eq_true h]
  have h1 : (0 : Int) < ab := by omega
  have HH := Lib.hid h
  clear h
  go_enter Tryz.func63, Tryz.ntmps63
  go_wp2_with fail
  refine bodyPost_ret (v := .tuple #[fixV k a b false true, .nilIface]) ?_ rfl ⟨rfl, HB.out _ _⟩
  rw [results_cell_tmp rfl]
  go_simp
  exact HH.out
theorem shift_any (w : World) (rb cb : Nat) (k a b : Int) (hr : w.cell? ⟨rb, 0, none⟩ = some (.pointer (some ⟨cb, 0, none⟩))) (hk : w.cell? ⟨cb, 2, none⟩ = some (.int .u32 k)) :
  Calls Tryz.prog 54 #[.int .u64 a, .int .u64 b, .pointer (some ⟨rb, 0, none⟩)] w fun e w' => e = .returned (.tuple #[fixV k a b false true, .nilIface]) ∧ Below w.heap.size w w' := by
 have l1 := World.block_lt_of_cell? w _ hr
 have l2 := World.block_lt_of_cell? w _ hk
 simp only at l1 l2
 go_enter Tryz.func54, Tryz.ntmps54
 go_wp2_with fail
 refine bodyPost_ret (v := .tuple #[fixV k a b false true, .nilIface]) ?_ rfl ⟨rfl, (Below.refl _ _).alloc (Nat.le_refl _) _⟩
 rw [results_cell_tmp rfl]
 go_simp
section
variable {w : World} {cb : Nat} {xt : TypeId} {xv y id bo rs : Value} {aa : Option Addr} {an ac : Nat} {a : Addr}
theorem calc2_yes {PA PB : TypeId → Value → Prop} {o1 f1 o2 f2 : Int} {m1 m2 : Nat} (hR : ReloE w cb (.iface xt xv) (.slice aa an ac) 2 id a) (hA : FwdC w y) (hF : FieldC w (.iface xt xv) (.slice aa an ac) y fun v _ => ∃ tA pA tB pB, v = .tuple #[.agg (cfC (.iface tA pA) o1 f1 (m1 : Nat)), .agg (cfC (.iface tB pB) o2 f2 (m2 : Nat)), .nilIface] ∧ PA tA pA ∧ PB tB pB) :
  Calls Tryz.prog 44 #[.pointer (some ⟨cb, 0, none⟩), y, bo, rs] w fun e w' => e = .returned (.tuple #[fixV 2 1 1 false false, .nilIface]) ∧ Below w.heap.size w w' := by
 obtain ⟨p0, p1, p2, p3⟩ := hR.blk.four
 have e0 := hR.err
 have lc := hR.blk.lt
 have le := World.block_lt_of_cell? w _ e0
 simp only at le
 have HF := Lib.hid hF
 have HFW := Lib.hid hA
 clear hR hF hA
 go_enter Tryz.func44, Tryz.ntmps44
 go_upto_region 5 with fail
 refine wp_world (CSt w cb w.heap.size) (CSt.start w cb) (fun W st => ?_)
 obtain ⟨r, hr⟩ : ∃ r, r = w.heap.size := ⟨_, rfl⟩
 rw [← hr] at st ⊢
 clear hr
 have p0W := (st.bel.cell (p := ⟨cb, 0, none⟩) lc).trans p0
 have p1W := (st.bel.cell (p := ⟨cb, 1, none⟩) lc).trans p1
 have p2W := (st.bel.cell (p := ⟨cb, 2, none⟩) lc).trans p2
 have e0W := (st.bel.cell (p := ⟨4, 0, none⟩) le).trans e0
 have s0W := st.rb.cell 0
 have f0W := st.fb.cell 0
 simp only [List.getElem?_toArray, List.getElem?_cons_zero] at s0W f0W
 have lcW := Nat.lt_of_lt_of_le lc st.bel.size
 have leW := Nat.lt_of_lt_of_le le st.bel.size
 have lrW := st.rb.lt
 have lfW := st.fb.lt
 have Hst := Lib.hid st
 go_wp2_with fail
 refine (HFW.out W Hst.out.bel).mono ?_
 rintro e W1 ⟨rfl, rfl⟩
 obtain ⟨W, rfl⟩ : ∃ z : World, z = W1 := ⟨_, rfl⟩
 clear HFW
 go_wp2_with fail
 refine (HF.out W Hst.out.bel).mono ?_
 rintro e W0 ⟨hb0, v, rfl, tA, pA, tB, pB, rfl, hPA, hPB⟩
 clear hPA hPB
 go_upto_region 66 with fail
 obtain ⟨W2, hW2⟩ : ∃ z, z = (W0.alloc (.cells (cfC (.iface tA pA) o1 f1 (m1 : Nat)) 137)).alloc (.cells (cfC (.iface tB pB) o2 f2 (m2 : Nat)) 137) := ⟨_, rfl⟩
 rw [← hW2]
 have hb2 : Below W.heap.size W W2 := by rw [hW2]; exact (hb0.alloc hb0.size _).alloc (by have := hb0.size; simp; omega) _
 obtain ⟨lf, hlf⟩ : ∃ z, z = W0.heap.size := ⟨_, rfl⟩
 obtain ⟨tf, htf⟩ : ∃ z, z = W0.heap.size + 1 := ⟨_, rfl⟩
 rw [← htf, ← hlf]
 have hLF : Hid (Blk W2 lf (cfC (.iface tA pA) o1 f1 (m1 : Nat)) 137) := Lib.hid (by rw [hW2, hlf]; exact (Blk.new _ _ _).alloc _)
 have hTF : Hid (Blk W2 tf (cfC (.iface tB pB) o2 f2 (m2 : Nat)) 137) := Lib.hid (by rw [hW2, htf]; exact Blk.newAt _ _ _ (by simp))
 have hne1 : lf ≠ r + 1 := by have := Hst.out.res.lt; have := hb0.size; omega
 have hne2 : tf ≠ r + 1 := by have := Hst.out.res.lt; have := hb0.size; omega
 clear hW2 hb0 hlf htf
 have st2 := Hst.out.old hb2
 have bel2 := st2.bel
 clear st
 have st2p0 := (bel2.cell (p := ⟨cb, 0, none⟩) lc).trans p0
 have st2p1 := (bel2.cell (p := ⟨cb, 1, none⟩) lc).trans p1
 have st2p2 := (bel2.cell (p := ⟨cb, 2, none⟩) lc).trans p2
 have st2e0 := (bel2.cell (p := ⟨4, 0, none⟩) le).trans e0
 have st2s0 := st2.rb.cell 0
 have st2f0 := st2.fb.cell 0
 simp only [List.getElem?_toArray, List.getElem?_cons_zero] at st2s0 st2f0
 have st2lc := Nat.lt_of_lt_of_le lc bel2.size
 have st2le := Nat.lt_of_lt_of_le le bel2.size
 have st2lr := st2.rb.lt
 have st2lf := st2.fb.lt
 obtain ⟨r0, r1, r2, r3, r4⟩ := st2.res.five
 have g0 := st2.res.free 0
 have g1 := st2.res.free 1
 have g2 := st2.res.free 2
 have g3 := st2.res.free 3
 have g4 := st2.res.free 4
 have lq := st2.res.lt
 have Hst2 := Lib.hid st2
 have Hbel2 := Lib.hid bel2
 clear st2 bel2 hb2
 clear p0W p1W p2W e0W s0W f0W lcW leW lrW lfW
 go_wp2_with fail
 refine (is_nil a W2).mono ?_
 rintro e W3 ⟨rfl, rfl⟩
 go_wp2_with fail
 refine (fixup_any W3 r cb 2 1 1 st2s0 st2p2).mono ?_
 rintro e W4 ⟨rfl, hb4⟩
 have st4 := Hst2.out.old hb4
 clear r0 r1 r2 r3 r4 g0 g1 g2 g3 g4 lq
 obtain ⟨r0, r1, r2, r3, r4⟩ := st4.res.five
 have g0 := st4.res.free 0
 have g1 := st4.res.free 1
 have g2 := st4.res.free 2
 have g3 := st4.res.free 3
 have g4 := st4.res.free 4
 have lq := st4.res.lt
 have Hst4 := Lib.hid st4
 clear st4 hb4
 go_wp2_with fail
 refine bodyPost_ret (v := .tuple #[fixV 2 1 1 false false, .nilIface]) ?_ rfl ⟨rfl, ?_⟩
 ·rw [results_cell_tmp rfl]
  go_simp
 ·have hge : w.heap.size ≤ r + 1 := by have := Hst4.out.at_; omega
  exact (((((Hst4.out.bel.setCell (p := ⟨r + 1, 0, none⟩) hge _).setCell (p := ⟨r + 1, 1, none⟩) hge _).setCell (p := ⟨r + 1, 2, none⟩) hge _).setCell (p := ⟨r + 1, 3, none⟩) hge _).setCell (p := ⟨r + 1, 4, none⟩) hge _)
theorem calc0_yes {PA PB : TypeId → Value → Prop} {o1 f1 o2 f2 : Int} {m1 m2 : Nat} (h1 : 0 ≤ o1 ∧ o1 ≤ 4294967295) (h2 : 0 ≤ o2 ∧ o2 ≤ 4294967295) (hR : ReloE w cb (.iface xt xv) (.slice aa an ac) 0 id a) (hA : FwdC w y) (hF : FieldC w (.iface xt xv) (.slice aa an ac) y fun v _ => ∃ tA pA tB pB, v = .tuple #[.agg (cfC (.iface tA pA) o1 f1 (m1 : Nat)), .agg (cfC (.iface tB pB) o2 f2 (m2 : Nat)), .nilIface] ∧ PA tA pA ∧ PB tB pB) :
  Calls Tryz.prog 44 #[.pointer (some ⟨cb, 0, none⟩), y, bo, rs] w fun e w' => e = .returned (.tuple #[fixV 0 o1 o2 false (decide (0 < m1)), .nilIface]) ∧ Below w.heap.size w w' := by
 obtain ⟨p0, p1, p2, p3⟩ := hR.blk.four
 have e0 := hR.err
 have lc := hR.blk.lt
 have le := World.block_lt_of_cell? w _ e0
 simp only at le
 have HF := Lib.hid hF
 have HFW := Lib.hid hA
 clear hR hF hA
 go_enter Tryz.func44, Tryz.ntmps44
 go_upto_region 5 with fail
 refine wp_world (CSt w cb w.heap.size) (CSt.start w cb) (fun W st => ?_)
 obtain ⟨r, hr⟩ : ∃ r, r = w.heap.size := ⟨_, rfl⟩
 rw [← hr] at st ⊢
 clear hr
 have p0W := (st.bel.cell (p := ⟨cb, 0, none⟩) lc).trans p0
 have p1W := (st.bel.cell (p := ⟨cb, 1, none⟩) lc).trans p1
 have p2W := (st.bel.cell (p := ⟨cb, 2, none⟩) lc).trans p2
 have e0W := (st.bel.cell (p := ⟨4, 0, none⟩) le).trans e0
 have s0W := st.rb.cell 0
 have f0W := st.fb.cell 0
 simp only [List.getElem?_toArray, List.getElem?_cons_zero] at s0W f0W
 have lcW := Nat.lt_of_lt_of_le lc st.bel.size
 have leW := Nat.lt_of_lt_of_le le st.bel.size
 have lrW := st.rb.lt
 have lfW := st.fb.lt
 have Hst := Lib.hid st
 go_wp2_with fail
 refine (HFW.out W Hst.out.bel).mono ?_
 rintro e W1 ⟨rfl, rfl⟩
 obtain ⟨W, rfl⟩ : ∃ z : World, z = W1 := ⟨_, rfl⟩
 clear HFW
 go_wp2_with fail
 refine (HF.out W Hst.out.bel).mono ?_
 rintro e W0 ⟨hb0, v, rfl, tA, pA, tB, pB, rfl, hPA, hPB⟩
 clear hPA hPB
 go_upto_region 66 with fail
 obtain ⟨W2, hW2⟩ : ∃ z, z = (W0.alloc (.cells (cfC (.iface tA pA) o1 f1 (m1 : Nat)) 137)).alloc (.cells (cfC (.iface tB pB) o2 f2 (m2 : Nat)) 137) := ⟨_, rfl⟩
 rw [← hW2]
 have hb2 : Below W.heap.size W W2 := by rw [hW2]; exact (hb0.alloc hb0.size _).alloc (by have := hb0.size; simp; omega) _
 obtain ⟨lf, hlf⟩ : ∃ z, z = W0.heap.size := ⟨_, rfl⟩
 obtain ⟨tf, htf⟩ : ∃ z, z = W0.heap.size + 1 := ⟨_, rfl⟩
 rw [← htf, ← hlf]
 have hLF : Hid (Blk W2 lf (cfC (.iface tA pA) o1 f1 (m1 : Nat)) 137) := Lib.hid (by rw [hW2, hlf]; exact (Blk.new _ _ _).alloc _)
 have hTF : Hid (Blk W2 tf (cfC (.iface tB pB) o2 f2 (m2 : Nat)) 137) := Lib.hid (by rw [hW2, htf]; exact Blk.newAt _ _ _ (by simp))
 have hne1 : lf ≠ r + 1 := by have := Hst.out.res.lt; have := hb0.size; omega
 have hne2 : tf ≠ r + 1 := by have := Hst.out.res.lt; have := hb0.size; omega
 clear hW2 hb0 hlf htf
 have st2 := Hst.out.old hb2
 have bel2 := st2.bel
 clear st
 have st2p0 := (bel2.cell (p := ⟨cb, 0, none⟩) lc).trans p0
 have st2p1 := (bel2.cell (p := ⟨cb, 1, none⟩) lc).trans p1
 have st2p2 := (bel2.cell (p := ⟨cb, 2, none⟩) lc).trans p2
 have st2e0 := (bel2.cell (p := ⟨4, 0, none⟩) le).trans e0
 have st2s0 := st2.rb.cell 0
 have st2f0 := st2.fb.cell 0
 simp only [List.getElem?_toArray, List.getElem?_cons_zero] at st2s0 st2f0
 have st2lc := Nat.lt_of_lt_of_le lc bel2.size
 have st2le := Nat.lt_of_lt_of_le le bel2.size
 have st2lr := st2.rb.lt
 have st2lf := st2.fb.lt
 obtain ⟨r0, r1, r2, r3, r4⟩ := st2.res.five
 have g0 := st2.res.free 0
 have g1 := st2.res.free 1
 have g2 := st2.res.free 2
 have g3 := st2.res.free 3
 have g4 := st2.res.free 4
 have lq := st2.res.lt
 have Hst2 := Lib.hid st2
 have Hbel2 := Lib.hid bel2
 clear st2 bel2 hb2
 clear p0W p1W p2W e0W s0W f0W lcW leW lrW lfW
 go_wp2_with fail
 refine (is_nil a W2).mono ?_
 rintro e W3 ⟨rfl, rfl⟩
 obtain ⟨la0, la1, la2, la3⟩ := hLF.out.four
 obtain ⟨ta0, ta1, ta2, ta3⟩ := hTF.out.four
 have ll := hLF.out.lt
 have tl := hTF.out.lt
 go_wp2_with fail
 refine (fixup_any W3 r cb 0 o1 o2 st2s0 st2p2).mono ?_
 rintro e W5 ⟨rfl, hb5⟩
 go_wp2_with fail
 refine (fin_any W5 lf 0 o1 o2 (hLF.out.old hb5)).mono ?_
 rintro e W4 ⟨rfl, hb6⟩
 have hb4 := hb5.trans (hb6.mono hb5.size)
 clear la0 la1 la2 la3 ta0 ta1 ta2 ta3 ll tl hb5 hb6
 have st4 := Hst2.out.old hb4
 clear r0 r1 r2 r3 r4 g0 g1 g2 g3 g4 lq
 obtain ⟨r0, r1, r2, r3, r4⟩ := st4.res.five
 have g0 := st4.res.free 0
 have g1 := st4.res.free 1
 have g2 := st4.res.free 2
 have g3 := st4.res.free 3
 have g4 := st4.res.free 4
 have lq := st4.res.lt
 have Hst4 := Lib.hid st4
 clear st4 hb4
 go_wp2_with fail
 refine bodyPost_ret (v := .tuple #[fixV 0 o1 o2 false (decide (0 < m1)), .nilIface]) ?_ rfl ⟨rfl, ?_⟩
 ·rw [results_cell_tmp rfl]
  go_simp
 ·have hge : w.heap.size ≤ r + 1 := by have := Hst4.out.at_; omega
  exact (((((Hst4.out.bel.setCell (p := ⟨r + 1, 0, none⟩) hge _).setCell (p := ⟨r + 1, 1, none⟩) hge _).setCell (p := ⟨r + 1, 2, none⟩) hge _).setCell (p := ⟨r + 1, 3, none⟩) hge _).setCell (p := ⟨r + 1, 4, none⟩) hge _)
end
end Go.Proofs.YtfilbgmbmlmdbaaGreatDoor
