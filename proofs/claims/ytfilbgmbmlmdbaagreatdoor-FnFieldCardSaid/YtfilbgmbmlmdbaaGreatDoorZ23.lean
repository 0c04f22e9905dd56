/- A relocation of a field whose accessor is wrong: the package's own function. Nothing is claimed here. -/
import Derived.Test.YtfilbgmbmlmdbaaGreatDoorZ22
set_option linter.unusedSimpArgs false
set_option linter.unusedVariables false
set_option maxRecDepth 1000000
set_option maxHeartbeats 16000000
namespace Go.Proofs.YtfilbgmbmlmdbaaGreatDoor
open Go.RowKit Go.MapKept
section
variable {w : World} {cb : Nat} {xt : TypeId} {xv y id bo rs : Value} {aa : Option Addr} {an ac : Nat} {a : Addr}
theorem calc_wrong {k : Int} (hk : k = 0 ∨ k = 1 ∨ k = 2 ∨ k = 3 ∨ k = 4 ∨ k = 5) {sc : Array Value} {sy : TypeId} (hsn : w.heap[a.block]? = some (.cells sc sy (0, 0))) (hR : ReloE w cb (.iface xt xv) (.slice aa an ac) k id a) (hA : FwdC w y) (hF : FieldC w (.iface xt xv) (.slice aa an ac) y fun v w' => ∃ ev, v = .tuple #[cfA, cfA, ev] ∧ OtherErr a w' ev) :
  Calls Tryz.prog 44 #[.pointer (some ⟨cb, 0, none⟩), y, bo, rs] w fun e w' => (∃ b, e = .returned (.tuple #[.agg fix0, .iface 228 (.pointer (some b))])) ∧ Below w.heap.size w w' := by
 rcases hk with rfl | rfl | rfl | rfl | rfl | rfl
 all_goals
  obtain ⟨p0, p1, p2, p3⟩ := hR.blk.four
  have e0 := hR.err
  have lc := hR.blk.lt
  have le := World.block_lt_of_cell? w _ e0
  simp only at le
  have HF := Lib.hid hF
  have HFW := Lib.hid hA
  have HSN := Lib.hid hsn
  clear hR hF hA hsn
  go_enter Tryz.func44, Tryz.ntmps44
  go_upto_region 5 with fail
  refine wp_world (CSt w cb w.heap.size) (CSt.start w cb) (fun W st => ?_)
  obtain ⟨r, hr⟩ : ∃ r, r = w.heap.size := ⟨_, rfl⟩
  rw [← hr] at st ⊢
  clear hr
  have p0W := (st.bel.cell (p := ⟨cb, 0, none⟩) lc).trans p0
  have p1W := (st.bel.cell (p := ⟨cb, 1, none⟩) lc).trans p1
  have p2W := (st.bel.cell (p := ⟨cb, 2, none⟩) lc).trans p2
  have e0W := (st.bel.cell (p := ⟨4, 0, none⟩) le).trans e0
  have s0W := st.rb.cell 0
  have f0W := st.fb.cell 0
  simp only [List.getElem?_toArray, List.getElem?_cons_zero] at s0W f0W
  have lcW := Nat.lt_of_lt_of_le lc st.bel.size
  have leW := Nat.lt_of_lt_of_le le st.bel.size
  have lrW := st.rb.lt
  have lfW := st.fb.lt
  have Hst := Lib.hid st
  go_wp2_with fail
  refine (HFW.out W Hst.out.bel).mono ?_
  rintro e W1 ⟨rfl, rfl⟩
  obtain ⟨W, rfl⟩ : ∃ z : World, z = W1 := ⟨_, rfl⟩
  clear HFW
  go_wp2_with fail
  refine (HF.out W Hst.out.bel).mono ?_
  rintro e W0 ⟨hb0, v, rfl, ev, rfl, b, cs, ty, rfl, hne, hbk⟩
  go_upto_region 66 with fail
  obtain ⟨W2, hW2⟩ : ∃ z, z = (W0.alloc (.cells (cfC .nilIface 0 0 0) 137)).alloc (.cells (cfC .nilIface 0 0 0) 137) := ⟨_, rfl⟩
  rw [← hW2]
  have hb2 : Below W.heap.size W W2 := by rw [hW2]; exact (hb0.alloc hb0.size _).alloc (by have := hb0.size; simp; omega) _
  have hbk2 : W2.heap[b.block]? = some (.cells cs ty (0, 0)) := (by
   have h1 : Below W0.heap.size W0 W2 := by rw [hW2]; exact ((Below.refl _ _).alloc (Nat.le_refl _) _).alloc (by simp) _
   exact (h1.block b.block (Array.getElem?_eq_some_iff.1 hbk).1).trans hbk)
  have hsn2 : W2.heap[a.block]? = some (.cells sc sy (0, 0)) := ((Hst.out.bel.trans (hb2.mono Hst.out.bel.size)).block a.block (Array.getElem?_eq_some_iff.1 HSN.out).1).trans HSN.out
  clear hW2 hb0 hbk
  have st2 := Hst.out.old hb2
  have bel2 := st2.bel
  clear st
  have st2p0 := (bel2.cell (p := ⟨cb, 0, none⟩) lc).trans p0
  have st2p1 := (bel2.cell (p := ⟨cb, 1, none⟩) lc).trans p1
  have st2p2 := (bel2.cell (p := ⟨cb, 2, none⟩) lc).trans p2
  have st2e0 := (bel2.cell (p := ⟨4, 0, none⟩) le).trans e0
  have st2s0 := st2.rb.cell 0
  have st2f0 := st2.fb.cell 0
  simp only [List.getElem?_toArray, List.getElem?_cons_zero] at st2s0 st2f0
  have st2lc := Nat.lt_of_lt_of_le lc bel2.size
  have st2le := Nat.lt_of_lt_of_le le bel2.size
  have st2lr := st2.rb.lt
  have st2lf := st2.fb.lt
  obtain ⟨r0, r1, r2, r3, r4⟩ := st2.res.five
  have g0 := st2.res.free 0
  have g1 := st2.res.free 1
  have g2 := st2.res.free 2
  have g3 := st2.res.free 3
  have g4 := st2.res.free 4
  have lq := st2.res.lt
  have Hst2 := Lib.hid st2
  have Hbel2 := Lib.hid bel2
  clear st2 bel2 hb2
  clear p0W p1W p2W e0W s0W f0W lcW leW lrW lfW
  go_wp2_with fail
  refine (is_other b a cs sc ty sy W2 hne hbk2 hsn2).mono ?_
  rintro e W3 ⟨rfl, rfl⟩
  obtain ⟨y0, y1, y2, y3, y4⟩ := Hst2.out.zb.five
  have ly := Hst2.out.zb.lt
  clear hbk2 hsn2
  go_wp2_with fail
  refine bodyPost_ret (v := .tuple #[.agg fix0, .iface 228 (.pointer (some b))]) ?_ rfl ⟨⟨b, rfl⟩, ?_⟩
  ·rw [results_cell_tmp rfl]
   go_simp
  ·have hge : w.heap.size ≤ r + 1 := by have := Hst2.out.at_; omega
   exact (((((Hst2.out.bel.setCell (p := ⟨r + 1, 0, none⟩) hge _).setCell (p := ⟨r + 1, 1, none⟩) hge _).setCell (p := ⟨r + 1, 2, none⟩) hge _).setCell (p := ⟨r + 1, 3, none⟩) hge _).setCell (p := ⟨r + 1, 4, none⟩) hge _)
end
end Go.Proofs.YtfilbgmbmlmdbaaGreatDoor
