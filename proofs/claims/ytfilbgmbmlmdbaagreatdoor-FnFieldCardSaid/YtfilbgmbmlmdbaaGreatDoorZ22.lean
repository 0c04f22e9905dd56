/- A relocation of a field that is not there: the package's own function. Nothing is claimed here. -/
import Derived.Test.YtfilbgmbmlmdbaaGreatDoorZ21
set_option linter.unusedSimpArgs false
set_option linter.unusedVariables false
set_option maxRecDepth 1000000
set_option maxHeartbeats 16000000
namespace Go.Proofs.YtfilbgmbmlmdbaaGreatDoor
open Go.RowKit Go.MapKept
def FwdC (w : World) (y : Value) : Prop := ∀ W, Below w.heap.size w W → Calls Tryz.prog 61 #[y] W fun e w' => e = .returned (.tuple #[.pointer none, .bool false]) ∧ w' = W
def FieldC (w : World) (x acc y : Value) (Q : Value → World → Prop) : Prop := ∀ W, Below w.heap.size w W → Calls Tryz.prog 62 #[x, acc, y] W fun e w' => Below W.heap.size W w' ∧ ∃ v, e = .returned v ∧ Q v w'
abbrev cfA : Value := .agg (cfC .nilIface 0 0 0)
section
variable {w : World} {cb : Nat} {xt : TypeId} {xv y id bo rs : Value} {aa : Option Addr} {an ac : Nat} {a : Addr}
theorem calc_no {k p1 : Int} {pb : Bool} (hk : (k = 0 ∧ p1 = 0 ∧ pb = true) ∨ (k = 1 ∧ p1 = 0 ∧ pb = true) ∨ (k = 2 ∧ p1 = 1 ∧ pb = false) ∨ (k = 3 ∧ p1 = 0 ∧ pb = true) ∨ (k = 4 ∧ p1 = 0 ∧ pb = true) ∨ (k = 5 ∧ p1 = 0 ∧ pb = true)) (hR : ReloE w cb (.iface xt xv) (.slice aa an ac) k id a) (hA : FwdC w y) (hF : FieldC w (.iface xt xv) (.slice aa an ac) y fun v _ => v = .tuple #[cfA, cfA, .iface 228 (.pointer (some a))]) :
  Calls Tryz.prog 44 #[.pointer (some ⟨cb, 0, none⟩), y, bo, rs] w fun e w' => e = .returned (.tuple #[fixV k p1 0 pb false, .nilIface]) ∧ Below w.heap.size w w' := by
 rcases hk with ⟨rfl, rfl, rfl⟩ | ⟨rfl, rfl, rfl⟩ | ⟨rfl, rfl, rfl⟩ | ⟨rfl, rfl, rfl⟩ | ⟨rfl, rfl, rfl⟩ | ⟨rfl, rfl, rfl⟩
 all_goals
  obtain ⟨p0, p1, p2, p3⟩ := hR.blk.four
  have e0 := hR.err
  have lc := hR.blk.lt
  have le := World.block_lt_of_cell? w _ e0
  simp only at le
  have HF := Lib.hid hF
  have HFW := Lib.hid hA
  clear hR hF hA
  go_enter Tryz.func44, Tryz.ntmps44
  go_upto_region 5 with fail
  refine wp_world (CSt w cb w.heap.size) (CSt.start w cb) (fun W st => ?_)
  obtain ⟨r, hr⟩ : ∃ r, r = w.heap.size := ⟨_, rfl⟩
  rw [← hr] at st ⊢
  clear hr
  have p0W := (st.bel.cell (p := ⟨cb, 0, none⟩) lc).trans p0
  have p1W := (st.bel.cell (p := ⟨cb, 1, none⟩) lc).trans p1
  have p2W := (st.bel.cell (p := ⟨cb, 2, none⟩) lc).trans p2
  have e0W := (st.bel.cell (p := ⟨4, 0, none⟩) le).trans e0
  have s0W := st.rb.cell 0
  have f0W := st.fb.cell 0
  simp only [List.getElem?_toArray, List.getElem?_cons_zero] at s0W f0W
  have lcW := Nat.lt_of_lt_of_le lc st.bel.size
  have leW := Nat.lt_of_lt_of_le le st.bel.size
  have lrW := st.rb.lt
  have lfW := st.fb.lt
  have Hst := Lib.hid st
  go_wp2_with fail
  refine (HFW.out W Hst.out.bel).mono ?_
  rintro e W1 ⟨rfl, rfl⟩
  obtain ⟨W, rfl⟩ : ∃ z : World, z = W1 := ⟨_, rfl⟩
  clear HFW
  go_wp2_with fail
  refine (HF.out W Hst.out.bel).mono ?_
  rintro e W0 ⟨hb0, v, rfl, rfl⟩
  go_upto_region 66 with fail
  obtain ⟨W2, hW2⟩ : ∃ z, z = (W0.alloc (.cells (cfC .nilIface 0 0 0) 137)).alloc (.cells (cfC .nilIface 0 0 0) 137) := ⟨_, rfl⟩
  rw [← hW2]
  have hb2 : Below W.heap.size W W2 := by rw [hW2]; exact (hb0.alloc hb0.size _).alloc (by have := hb0.size; simp; omega) _
  clear hW2 hb0
  have st2 := Hst.out.old hb2
  have bel2 := st2.bel
  clear st
  have st2p0 := (bel2.cell (p := ⟨cb, 0, none⟩) lc).trans p0
  have st2p1 := (bel2.cell (p := ⟨cb, 1, none⟩) lc).trans p1
  have st2p2 := (bel2.cell (p := ⟨cb, 2, none⟩) lc).trans p2
  have st2e0 := (bel2.cell (p := ⟨4, 0, none⟩) le).trans e0
  have st2s0 := st2.rb.cell 0
  have st2f0 := st2.fb.cell 0
  simp only [List.getElem?_toArray, List.getElem?_cons_zero] at st2s0 st2f0
  have st2lc := Nat.lt_of_lt_of_le lc bel2.size
  have st2le := Nat.lt_of_lt_of_le le bel2.size
  have st2lr := st2.rb.lt
  have st2lf := st2.fb.lt
  obtain ⟨r0, r1, r2, r3, r4⟩ := st2.res.five
  have g0 := st2.res.free 0
  have g1 := st2.res.free 1
  have g2 := st2.res.free 2
  have g3 := st2.res.free 3
  have g4 := st2.res.free 4
  have lq := st2.res.lt
  have Hst2 := Lib.hid st2
  have Hbel2 := Lib.hid bel2
  clear st2 bel2 hb2
  clear p0W p1W p2W e0W s0W f0W lcW leW lrW lfW
  go_wp2_with fail
  refine (is_same a W2).mono ?_
  rintro e W3 ⟨rfl, rfl⟩
  go_wp2_with fail
  refine (poison_any W3 r (r + 2) cb _ (by omega) (by omega) st2s0 st2p2 st2f0).mono ?_
  rintro e W4 ⟨rfl, hb4⟩
  first | rw [show poiV 0 = fixV 0 0 0 true false from rfl] | rw [show poiV 1 = fixV 1 0 0 true false from rfl] | rw [show poiV 2 = fixV 2 1 0 false false from rfl] | rw [show poiV 3 = fixV 3 0 0 true false from rfl] | rw [show poiV 4 = fixV 4 0 0 true false from rfl] | rw [show poiV 5 = fixV 5 0 0 true false from rfl]
  have st4 := Hst2.out.old hb4
  clear r0 r1 r2 r3 r4 g0 g1 g2 g3 g4 lq
  obtain ⟨r0, r1, r2, r3, r4⟩ := st4.res.five
  have g0 := st4.res.free 0
  have g1 := st4.res.free 1
  have g2 := st4.res.free 2
  have g3 := st4.res.free 3
  have g4 := st4.res.free 4
  have lq := st4.res.lt
  have Hst4 := Lib.hid st4
  clear st4 hb4
  go_wp2_with fail
  refine bodyPost_ret (v := .tuple #[fixV _ _ 0 _ false, .nilIface]) ?_ rfl ⟨rfl, ?_⟩
  ·rw [results_cell_tmp rfl]
   go_simp
  ·have hge : w.heap.size ≤ r + 1 := by have := Hst4.out.at_; omega
   exact (((((Hst4.out.bel.setCell (p := ⟨r + 1, 0, none⟩) hge _).setCell (p := ⟨r + 1, 1, none⟩) hge _).setCell (p := ⟨r + 1, 2, none⟩) hge _).setCell (p := ⟨r + 1, 3, none⟩) hge _).setCell (p := ⟨r + 1, 4, none⟩) hge _)
end
end Go.Proofs.YtfilbgmbmlmdbaaGreatDoor
