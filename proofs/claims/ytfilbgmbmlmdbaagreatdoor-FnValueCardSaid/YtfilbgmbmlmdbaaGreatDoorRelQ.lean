/- A relocation of an enumeration's value: the package's own function. Nothing is claimed here. -/
import Derived.Test.YtfilbgmbmlmdbaaGreatDoorRelI
import Derived.Test.YtfilbgmbmlmdbaaGreatDoorOrd
namespace Go.Proofs.YtfilbgmbmlmdbaaGreatDoor
open Go.RowKit Go.MapKept

/-- The relocation, the sentinel. -/
structure ReloE (w : World) (cb : Nat) (v acc : Value) (k : Int) (id : Value) (a : Addr) : Prop where
  blk : Blk w cb #[v, acc, .int .u32 k, id] 112
  err : w.cell? ⟨4, 0, none⟩ = some (.iface 228 (.pointer (some a)))
/-- What the search for a value gives, in later worlds too. -/
def FindC (w : World) (x acc y : Value) (v : Value) : Prop := ∀ W, Below w.heap.size w W → Calls Tryz.prog 60 #[x, acc, y] W fun e w' => e = .returned v ∧ Below W.heap.size W w'
theorem cell_five (w : World) {p : Addr} {b : Nat} (hp : ¬ p.block = b) (a0 a1 a2 a3 a4 : Value) : (((((w.setCell ⟨b, 0, none⟩ a0).setCell ⟨b, 1, none⟩ a1).setCell ⟨b, 2, none⟩ a2).setCell ⟨b, 3, none⟩ a3).setCell ⟨b, 4, none⟩ a4).cell? p = w.cell? p := by
  have h : ∀ i : Nat, (⟨b, i, none⟩ : Addr) ≠ p := fun i e => hp (congrArg Addr.block e).symm
  rw [World.cell?_setCell_other _ _ _ _ (h 4), World.cell?_setCell_other _ _ _ _ (h 3), World.cell?_setCell_other _ _ _ _ (h 2), World.cell?_setCell_other _ _ _ _ (h 1), World.cell?_setCell_other _ _ _ _ (h 0)]
section
variable {w : World} {cb : Nat} {xt : TypeId} {xv y id bo rs : Value} {aa : Option Addr} {an ac : Nat} {a : Addr}

set_option linter.unusedSimpArgs false in
set_option maxRecDepth 100000 in
set_option maxHeartbeats 4000000 in
theorem calc10_no (hR : ReloE w cb (.iface xt xv) (.slice aa an ac) 10 id a) (hF : FindC w (.iface xt xv) (.slice aa an ac) y (.tuple #[.pointer none, .pointer none, .iface 228 (.pointer (some a))])) :
    Calls Tryz.prog 44 #[.pointer (some ⟨cb, 0, none⟩), y, bo, rs] w fun e w' => e = .returned (.tuple #[fixV 10 1 0 false false, .nilIface]) ∧ Below w.heap.size w w' := by
  obtain ⟨p0, p1, p2, p3⟩ := hR.blk.four
  have e0 := hR.err
  have lc := hR.blk.lt
  have le := World.block_lt_of_cell? w _ e0
  simp only at le
  have HF := Lib.hid hF
  clear hR hF
  go_enter Tryz.func44, Tryz.ntmps44
  go_upto_region 5 with fail
  refine wp_world (CSt w cb w.heap.size) (CSt.start w cb) (fun W st => ?_)
  obtain ⟨r, hr⟩ : ∃ r, r = w.heap.size := ⟨_, rfl⟩
  rw [← hr] at st ⊢
  clear hr
  have p0W := (st.bel.cell (p := ⟨cb, 0, none⟩) lc).trans p0
  have p1W := (st.bel.cell (p := ⟨cb, 1, none⟩) lc).trans p1
  have p2W := (st.bel.cell (p := ⟨cb, 2, none⟩) lc).trans p2
  have e0W := (st.bel.cell (p := ⟨4, 0, none⟩) le).trans e0
  have s0W := st.rb.cell 0
  have f0W := st.fb.cell 0
  simp only [List.getElem?_toArray, List.getElem?_cons_zero] at s0W f0W
  have lcW := Nat.lt_of_lt_of_le lc st.bel.size
  have leW := Nat.lt_of_lt_of_le le st.bel.size
  have lrW := st.rb.lt
  have lfW := st.fb.lt
  have Hst := Lib.hid st
  go_wp2_with fail
  refine (HF.out W Hst.out.bel).mono ?_
  rintro e W2 ⟨rfl, hb2⟩
  have st2 := Hst.out.old hb2
  have bel2 := st2.bel
  clear st
  have st2p0 := (bel2.cell (p := ⟨cb, 0, none⟩) lc).trans p0
  have st2p1 := (bel2.cell (p := ⟨cb, 1, none⟩) lc).trans p1
  have st2p2 := (bel2.cell (p := ⟨cb, 2, none⟩) lc).trans p2
  have st2e0 := (bel2.cell (p := ⟨4, 0, none⟩) le).trans e0
  have st2s0 := st2.rb.cell 0
  have st2f0 := st2.fb.cell 0
  simp only [List.getElem?_toArray, List.getElem?_cons_zero] at st2s0 st2f0
  have st2lc := Nat.lt_of_lt_of_le lc bel2.size
  have st2le := Nat.lt_of_lt_of_le le bel2.size
  have st2lr := st2.rb.lt
  have st2lf := st2.fb.lt
  obtain ⟨r0, r1, r2, r3, r4⟩ := st2.res.five
  have g0 := st2.res.free 0
  have g1 := st2.res.free 1
  have g2 := st2.res.free 2
  have g3 := st2.res.free 3
  have g4 := st2.res.free 4
  have lq := st2.res.lt
  have Hst2 := Lib.hid st2
  have Hbel2 := Lib.hid bel2
  clear st2 bel2 hb2
  clear p0W p1W p2W e0W s0W f0W lcW leW lrW lfW
  go_wp2_with fail
  refine (is_same a W2).mono ?_
  rintro e W3 ⟨rfl, rfl⟩
  go_wp2_with fail
  refine (poison_any W3 r (r + 2) cb 10 (by omega) (by omega) st2s0 st2p2 st2f0).mono ?_
  rintro e W4 ⟨rfl, hb4⟩
  rw [show poiV 10 = fixV 10 1 0 false false from rfl]
  have st4 := Hst2.out.old hb4
  clear r0 r1 r2 r3 r4 g0 g1 g2 g3 g4 lq
  obtain ⟨r0, r1, r2, r3, r4⟩ := st4.res.five
  have g0 := st4.res.free 0
  have g1 := st4.res.free 1
  have g2 := st4.res.free 2
  have g3 := st4.res.free 3
  have g4 := st4.res.free 4
  have lq := st4.res.lt
  have Hst4 := Lib.hid st4
  clear st4 hb4
  go_wp2_with fail
  refine bodyPost_ret (v := .tuple #[fixV 10 1 0 false false, .nilIface]) ?_ rfl ⟨rfl, ?_⟩
  · rw [results_cell_tmp rfl]
    go_simp
  · have hge : w.heap.size ≤ r + 1 := by have := Hst4.out.at_; omega
    exact (((((Hst4.out.bel.setCell (p := ⟨r + 1, 0, none⟩) hge _).setCell (p := ⟨r + 1, 1, none⟩) hge _).setCell (p := ⟨r + 1, 2, none⟩) hge _).setCell (p := ⟨r + 1, 3, none⟩) hge _).setCell (p := ⟨r + 1, 4, none⟩) hge _)

set_option linter.unusedSimpArgs false in
set_option maxRecDepth 100000 in
set_option maxHeartbeats 4000000 in
theorem calc11_no (hR : ReloE w cb (.iface xt xv) (.slice aa an ac) 11 id a) (hF : FindC w (.iface xt xv) (.slice aa an ac) y (.tuple #[.pointer none, .pointer none, .iface 228 (.pointer (some a))])) :
    Calls Tryz.prog 44 #[.pointer (some ⟨cb, 0, none⟩), y, bo, rs] w fun e w' => e = .returned (.tuple #[fixV 11 0 0 true false, .nilIface]) ∧ Below w.heap.size w w' := by
  obtain ⟨p0, p1, p2, p3⟩ := hR.blk.four
  have e0 := hR.err
  have lc := hR.blk.lt
  have le := World.block_lt_of_cell? w _ e0
  simp only at le
  have HF := Lib.hid hF
  clear hR hF
  go_enter Tryz.func44, Tryz.ntmps44
  go_upto_region 5 with fail
  refine wp_world (CSt w cb w.heap.size) (CSt.start w cb) (fun W st => ?_)
  obtain ⟨r, hr⟩ : ∃ r, r = w.heap.size := ⟨_, rfl⟩
  rw [← hr] at st ⊢
  clear hr
  have p0W := (st.bel.cell (p := ⟨cb, 0, none⟩) lc).trans p0
  have p1W := (st.bel.cell (p := ⟨cb, 1, none⟩) lc).trans p1
  have p2W := (st.bel.cell (p := ⟨cb, 2, none⟩) lc).trans p2
  have e0W := (st.bel.cell (p := ⟨4, 0, none⟩) le).trans e0
  have s0W := st.rb.cell 0
  have f0W := st.fb.cell 0
  simp only [List.getElem?_toArray, List.getElem?_cons_zero] at s0W f0W
  have lcW := Nat.lt_of_lt_of_le lc st.bel.size
  have leW := Nat.lt_of_lt_of_le le st.bel.size
  have lrW := st.rb.lt
  have lfW := st.fb.lt
  have Hst := Lib.hid st
  go_wp2_with fail
  refine (HF.out W Hst.out.bel).mono ?_
  rintro e W2 ⟨rfl, hb2⟩
  have st2 := Hst.out.old hb2
  have bel2 := st2.bel
  clear st
  have st2p0 := (bel2.cell (p := ⟨cb, 0, none⟩) lc).trans p0
  have st2p1 := (bel2.cell (p := ⟨cb, 1, none⟩) lc).trans p1
  have st2p2 := (bel2.cell (p := ⟨cb, 2, none⟩) lc).trans p2
  have st2e0 := (bel2.cell (p := ⟨4, 0, none⟩) le).trans e0
  have st2s0 := st2.rb.cell 0
  have st2f0 := st2.fb.cell 0
  simp only [List.getElem?_toArray, List.getElem?_cons_zero] at st2s0 st2f0
  have st2lc := Nat.lt_of_lt_of_le lc bel2.size
  have st2le := Nat.lt_of_lt_of_le le bel2.size
  have st2lr := st2.rb.lt
  have st2lf := st2.fb.lt
  obtain ⟨r0, r1, r2, r3, r4⟩ := st2.res.five
  have g0 := st2.res.free 0
  have g1 := st2.res.free 1
  have g2 := st2.res.free 2
  have g3 := st2.res.free 3
  have g4 := st2.res.free 4
  have lq := st2.res.lt
  have Hst2 := Lib.hid st2
  have Hbel2 := Lib.hid bel2
  clear st2 bel2 hb2
  clear p0W p1W p2W e0W s0W f0W lcW leW lrW lfW
  go_wp2_with fail
  refine (is_same a W2).mono ?_
  rintro e W3 ⟨rfl, rfl⟩
  go_wp2_with fail
  refine (poison_any W3 r (r + 2) cb 11 (by omega) (by omega) st2s0 st2p2 st2f0).mono ?_
  rintro e W4 ⟨rfl, hb4⟩
  rw [show poiV 11 = fixV 11 0 0 true false from rfl]
  have st4 := Hst2.out.old hb4
  clear r0 r1 r2 r3 r4 g0 g1 g2 g3 g4 lq
  obtain ⟨r0, r1, r2, r3, r4⟩ := st4.res.five
  have g0 := st4.res.free 0
  have g1 := st4.res.free 1
  have g2 := st4.res.free 2
  have g3 := st4.res.free 3
  have g4 := st4.res.free 4
  have lq := st4.res.lt
  have Hst4 := Lib.hid st4
  clear st4 hb4
  go_wp2_with fail
  refine bodyPost_ret (v := .tuple #[fixV 11 0 0 true false, .nilIface]) ?_ rfl ⟨rfl, ?_⟩
  · rw [results_cell_tmp rfl]
    go_simp
  · have hge : w.heap.size ≤ r + 1 := by have := Hst4.out.at_; omega
    exact (((((Hst4.out.bel.setCell (p := ⟨r + 1, 0, none⟩) hge _).setCell (p := ⟨r + 1, 1, none⟩) hge _).setCell (p := ⟨r + 1, 2, none⟩) hge _).setCell (p := ⟨r + 1, 3, none⟩) hge _).setCell (p := ⟨r + 1, 4, none⟩) hge _)

set_option linter.unusedSimpArgs false in
set_option maxRecDepth 100000 in
set_option maxHeartbeats 4000000 in
theorem calc10_yes {q1 d1 q2 d2 : Nat} (hR : ReloE w cb (.iface xt xv) (.slice aa an ac) 10 id a) (hF : FindC w (.iface xt xv) (.slice aa an ac) y (.tuple #[.pointer (some ⟨q1, d1, none⟩), .pointer (some ⟨q2, d2, none⟩), .nilIface])) :
    Calls Tryz.prog 44 #[.pointer (some ⟨cb, 0, none⟩), y, bo, rs] w fun e w' => e = .returned (.tuple #[fixV 10 1 1 false false, .nilIface]) ∧ Below w.heap.size w w' := by
  obtain ⟨p0, p1, p2, p3⟩ := hR.blk.four
  have e0 := hR.err
  have lc := hR.blk.lt
  have le := World.block_lt_of_cell? w _ e0
  simp only at le
  have HF := Lib.hid hF
  clear hR hF
  go_enter Tryz.func44, Tryz.ntmps44
  go_upto_region 5 with fail
  refine wp_world (CSt w cb w.heap.size) (CSt.start w cb) (fun W st => ?_)
  obtain ⟨r, hr⟩ : ∃ r, r = w.heap.size := ⟨_, rfl⟩
  rw [← hr] at st ⊢
  clear hr
  have p0W := (st.bel.cell (p := ⟨cb, 0, none⟩) lc).trans p0
  have p1W := (st.bel.cell (p := ⟨cb, 1, none⟩) lc).trans p1
  have p2W := (st.bel.cell (p := ⟨cb, 2, none⟩) lc).trans p2
  have e0W := (st.bel.cell (p := ⟨4, 0, none⟩) le).trans e0
  have s0W := st.rb.cell 0
  have f0W := st.fb.cell 0
  simp only [List.getElem?_toArray, List.getElem?_cons_zero] at s0W f0W
  have lcW := Nat.lt_of_lt_of_le lc st.bel.size
  have leW := Nat.lt_of_lt_of_le le st.bel.size
  have lrW := st.rb.lt
  have lfW := st.fb.lt
  have Hst := Lib.hid st
  go_wp2_with fail
  refine (HF.out W Hst.out.bel).mono ?_
  rintro e W2 ⟨rfl, hb2⟩
  have st2 := Hst.out.old hb2
  have bel2 := st2.bel
  clear st
  have st2p0 := (bel2.cell (p := ⟨cb, 0, none⟩) lc).trans p0
  have st2p1 := (bel2.cell (p := ⟨cb, 1, none⟩) lc).trans p1
  have st2p2 := (bel2.cell (p := ⟨cb, 2, none⟩) lc).trans p2
  have st2e0 := (bel2.cell (p := ⟨4, 0, none⟩) le).trans e0
  have st2s0 := st2.rb.cell 0
  have st2f0 := st2.fb.cell 0
  simp only [List.getElem?_toArray, List.getElem?_cons_zero] at st2s0 st2f0
  have st2lc := Nat.lt_of_lt_of_le lc bel2.size
  have st2le := Nat.lt_of_lt_of_le le bel2.size
  have st2lr := st2.rb.lt
  have st2lf := st2.fb.lt
  obtain ⟨r0, r1, r2, r3, r4⟩ := st2.res.five
  have g0 := st2.res.free 0
  have g1 := st2.res.free 1
  have g2 := st2.res.free 2
  have g3 := st2.res.free 3
  have g4 := st2.res.free 4
  have lq := st2.res.lt
  have Hst2 := Lib.hid st2
  have Hbel2 := Lib.hid bel2
  clear st2 bel2 hb2
  clear p0W p1W p2W e0W s0W f0W lcW leW lrW lfW
  go_wp2_with fail
  refine (is_nil a W2).mono ?_
  rintro e W3 ⟨rfl, rfl⟩
  go_wp2_with fail
  refine (fixup_any W3 r cb 10 1 1 st2s0 st2p2).mono ?_
  rintro e W4 ⟨rfl, hb4⟩
  have st4 := Hst2.out.old hb4
  clear r0 r1 r2 r3 r4 g0 g1 g2 g3 g4 lq
  obtain ⟨r0, r1, r2, r3, r4⟩ := st4.res.five
  have g0 := st4.res.free 0
  have g1 := st4.res.free 1
  have g2 := st4.res.free 2
  have g3 := st4.res.free 3
  have g4 := st4.res.free 4
  have lq := st4.res.lt
  have Hst4 := Lib.hid st4
  clear st4 hb4
  go_wp2_with fail
  refine bodyPost_ret (v := .tuple #[fixV 10 1 1 false false, .nilIface]) ?_ rfl ⟨rfl, ?_⟩
  · rw [results_cell_tmp rfl]
    go_simp
  · have hge : w.heap.size ≤ r + 1 := by have := Hst4.out.at_; omega
    exact (((((Hst4.out.bel.setCell (p := ⟨r + 1, 0, none⟩) hge _).setCell (p := ⟨r + 1, 1, none⟩) hge _).setCell (p := ⟨r + 1, 2, none⟩) hge _).setCell (p := ⟨r + 1, 3, none⟩) hge _).setCell (p := ⟨r + 1, 4, none⟩) hge _)

set_option linter.unusedSimpArgs false in
set_option maxRecDepth 100000 in
set_option maxHeartbeats 4000000 in
theorem calc11_yes {q1 d1 q2 d2 : Nat} {x z : Int} (hx : w.cell? ⟨q1, d1 + 1, none⟩ = some (.int .u64 x)) (hz : w.cell? ⟨q2, d2 + 1, none⟩ = some (.int .u64 z)) (hR : ReloE w cb (.iface xt xv) (.slice aa an ac) 11 id a) (hF : FindC w (.iface xt xv) (.slice aa an ac) y (.tuple #[.pointer (some ⟨q1, d1, none⟩), .pointer (some ⟨q2, d2, none⟩), .nilIface])) :
    Calls Tryz.prog 44 #[.pointer (some ⟨cb, 0, none⟩), y, bo, rs] w fun e w' => e = .returned (.tuple #[fixV 11 x z false false, .nilIface]) ∧ Below w.heap.size w w' := by
  have lx := World.block_lt_of_cell? w _ hx
  have lz := World.block_lt_of_cell? w _ hz
  simp only at lx lz
  have Hx := Lib.hid hx
  have Hz := Lib.hid hz
  have Lx := Lib.hid lx
  have Lz := Lib.hid lz
  clear hx hz lx lz
  obtain ⟨p0, p1, p2, p3⟩ := hR.blk.four
  have e0 := hR.err
  have lc := hR.blk.lt
  have le := World.block_lt_of_cell? w _ e0
  simp only at le
  have HF := Lib.hid hF
  clear hR hF
  go_enter Tryz.func44, Tryz.ntmps44
  go_upto_region 5 with fail
  refine wp_world (CSt w cb w.heap.size) (CSt.start w cb) (fun W st => ?_)
  obtain ⟨r, hr⟩ : ∃ r, r = w.heap.size := ⟨_, rfl⟩
  rw [← hr] at st ⊢
  clear hr
  have p0W := (st.bel.cell (p := ⟨cb, 0, none⟩) lc).trans p0
  have p1W := (st.bel.cell (p := ⟨cb, 1, none⟩) lc).trans p1
  have p2W := (st.bel.cell (p := ⟨cb, 2, none⟩) lc).trans p2
  have e0W := (st.bel.cell (p := ⟨4, 0, none⟩) le).trans e0
  have s0W := st.rb.cell 0
  have f0W := st.fb.cell 0
  simp only [List.getElem?_toArray, List.getElem?_cons_zero] at s0W f0W
  have lcW := Nat.lt_of_lt_of_le lc st.bel.size
  have leW := Nat.lt_of_lt_of_le le st.bel.size
  have lrW := st.rb.lt
  have lfW := st.fb.lt
  have Hst := Lib.hid st
  go_wp2_with fail
  refine (HF.out W Hst.out.bel).mono ?_
  rintro e W2 ⟨rfl, hb2⟩
  have st2 := Hst.out.old hb2
  have bel2 := st2.bel
  clear st
  have st2p0 := (bel2.cell (p := ⟨cb, 0, none⟩) lc).trans p0
  have st2p1 := (bel2.cell (p := ⟨cb, 1, none⟩) lc).trans p1
  have st2p2 := (bel2.cell (p := ⟨cb, 2, none⟩) lc).trans p2
  have st2e0 := (bel2.cell (p := ⟨4, 0, none⟩) le).trans e0
  have st2s0 := st2.rb.cell 0
  have st2f0 := st2.fb.cell 0
  simp only [List.getElem?_toArray, List.getElem?_cons_zero] at st2s0 st2f0
  have st2lc := Nat.lt_of_lt_of_le lc bel2.size
  have st2le := Nat.lt_of_lt_of_le le bel2.size
  have st2lr := st2.rb.lt
  have st2lf := st2.fb.lt
  obtain ⟨r0, r1, r2, r3, r4⟩ := st2.res.five
  have g0 := st2.res.free 0
  have g1 := st2.res.free 1
  have g2 := st2.res.free 2
  have g3 := st2.res.free 3
  have g4 := st2.res.free 4
  have lq := st2.res.lt
  have Hst2 := Lib.hid st2
  have Hbel2 := Lib.hid bel2
  clear st2 bel2 hb2
  clear p0W p1W p2W e0W s0W f0W lcW leW lrW lfW
  go_wp2_with fail
  refine (is_nil a W2).mono ?_
  rintro e W3 ⟨rfl, rfl⟩
  have hx3 := (Hbel2.out.cell (p := ⟨q1, d1 + 1, none⟩) Lx.out).trans Hx.out
  have hz3 := (Hbel2.out.cell (p := ⟨q2, d2 + 1, none⟩) Lz.out).trans Hz.out
  have lx3 := Nat.lt_of_lt_of_le Lx.out Hbel2.out.size
  have lz3 := Nat.lt_of_lt_of_le Lz.out Hbel2.out.size
  clear r0 r1 r2 r3 r4 g0 g1 g2 g3 g4 lq
  go_wp2_with fail
  have hrr : w.heap.size ≤ r := Nat.le_of_eq Hst2.out.at_.symm
  have n1 : ¬ q1 = r + 1 := by have := Lx.out; omega
  have n2 : ¬ q2 = r + 1 := by have := Lz.out; omega
  have n3 : ¬ r + 2 = r + 1 := by omega
  have n4 : ¬ r + 1 + 1 = r + 1 := by omega
  have hdr : Below W3.heap.size W3 W3.drew := (Below.refl _ _).drew
  have hS3 : W3.drew.cell? ⟨r + 2, 0, none⟩ = some (.func (.func 53) #[] #[.pointer (some ⟨r, 0, none⟩)]) ∧ W3.drew.cell? ⟨q1, d1 + 1, none⟩ = some (.int .u64 x) ∧ W3.drew.cell? ⟨q2, d2 + 1, none⟩ = some (.int .u64 z) := ⟨st2f0, hx3, hz3⟩
  have hSof : ∀ w', Below W3.heap.size W3 w' → w'.cell? ⟨r + 2, 0, none⟩ = some (.func (.func 53) #[] #[.pointer (some ⟨r, 0, none⟩)]) ∧ w'.cell? ⟨q1, d1 + 1, none⟩ = some (.int .u64 x) ∧ w'.cell? ⟨q2, d2 + 1, none⟩ = some (.int .u64 z) :=
    fun w' hb => ⟨(hb.cell (p := ⟨r + 2, 0, none⟩) st2lf).trans st2f0, (hb.cell (p := ⟨q1, d1 + 1, none⟩) lx3).trans hx3, (hb.cell (p := ⟨q2, d2 + 1, none⟩) lz3).trans hz3⟩
  have hSet : ∀ w' : World, (w'.cell? ⟨r + 2, 0, none⟩ = some (.func (.func 53) #[] #[.pointer (some ⟨r, 0, none⟩)]) ∧ w'.cell? ⟨q1, d1 + 1, none⟩ = some (.int .u64 x) ∧ w'.cell? ⟨q2, d2 + 1, none⟩ = some (.int .u64 z)) → ∀ a0 a1 a2 a3 a4 : Value, ((((((w'.setCell ⟨r + 1, 0, none⟩ a0).setCell ⟨r + 1, 1, none⟩ a1).setCell ⟨r + 1, 2, none⟩ a2).setCell ⟨r + 1, 3, none⟩ a3).setCell ⟨r + 1, 4, none⟩ a4).cell? ⟨r + 2, 0, none⟩ = some (.func (.func 53) #[] #[.pointer (some ⟨r, 0, none⟩)]) ∧
      (((((w'.setCell ⟨r + 1, 0, none⟩ a0).setCell ⟨r + 1, 1, none⟩ a1).setCell ⟨r + 1, 2, none⟩ a2).setCell ⟨r + 1, 3, none⟩ a3).setCell ⟨r + 1, 4, none⟩ a4).cell? ⟨q1, d1 + 1, none⟩ = some (.int .u64 x) ∧
      (((((w'.setCell ⟨r + 1, 0, none⟩ a0).setCell ⟨r + 1, 1, none⟩ a1).setCell ⟨r + 1, 2, none⟩ a2).setCell ⟨r + 1, 3, none⟩ a3).setCell ⟨r + 1, 4, none⟩ a4).cell? ⟨q2, d2 + 1, none⟩ = some (.int .u64 z)) :=
    fun w' h a0 a1 a2 a3 a4 => ⟨(cell_five w' (p := ⟨r + 2, 0, none⟩) n3 a0 a1 a2 a3 a4).trans h.1, (cell_five w' (p := ⟨q1, d1 + 1, none⟩) n1 a0 a1 a2 a3 a4).trans h.2.1, (cell_five w' (p := ⟨q2, d2 + 1, none⟩) n2 a0 a1 a2 a3 a4).trans h.2.2⟩
  refine AnyBut.start (S := (fun w' : World => w'.cell? ⟨r + 2, 0, none⟩ = some (.func (.func 53) #[] #[.pointer (some ⟨r, 0, none⟩)]) ∧ w'.cell? ⟨q1, d1 + 1, none⟩ = some (.int .u64 x) ∧ w'.cell? ⟨q2, d2 + 1, none⟩ = some (.int .u64 z))) (t := 13) (by as_aux_lemma => kernel_rfl) (hS3) (fun hHeld => ?_)
  refine AnyBut.take (i := 0) (v := ?_) rfl (by as_aux_lemma => kernel_rfl) (by as_aux_lemma => kernel_rfl) (by as_aux_lemma => kernel_rfl) (by as_aux_lemma => kernel_rfl) (fun _ _ _ h => h) hHeld (by rfl) ?_ ?_
  rotate_left
  focus (intro w hSw; (try dsimp only at hSw); go_simp <;> with_reducible rfl)
  try simp only [Act.put, List.setIfInBounds_toArray, List.set_cons_zero, List.set_cons_succ]
  refine AnyBut.take (i := 1) (v := ?_) rfl (by as_aux_lemma => kernel_rfl) (by as_aux_lemma => kernel_rfl) (by as_aux_lemma => kernel_rfl) (by as_aux_lemma => kernel_rfl) (fun _ _ _ h => h) hHeld (by rfl) ?_ ?_
  rotate_left
  focus (intro w hSw; (try dsimp only at hSw); go_simp <;> with_reducible rfl)
  try simp only [Act.put, List.setIfInBounds_toArray, List.set_cons_zero, List.set_cons_succ]
  refine AnyBut.take (i := 2) (v := ?_) rfl (by as_aux_lemma => kernel_rfl) (by as_aux_lemma => kernel_rfl) (by as_aux_lemma => kernel_rfl) (by as_aux_lemma => kernel_rfl) (fun _ _ _ h => h) hHeld (by rfl) ?_ ?_
  rotate_left
  focus (intro w hSw; (try dsimp only at hSw); go_simp <;> with_reducible rfl)
  try simp only [Act.put, List.setIfInBounds_toArray, List.set_cons_zero, List.set_cons_succ]
  refine AnyBut.take (i := 3) (v := ?_) rfl (by as_aux_lemma => kernel_rfl) (by as_aux_lemma => kernel_rfl) (by as_aux_lemma => kernel_rfl) (by as_aux_lemma => kernel_rfl) (fun _ _ _ h => h) hHeld (by rfl) ?_ ?_
  rotate_left
  focus (intro w hSw; (try dsimp only at hSw); go_simp <;> with_reducible rfl)
  try simp only [Act.put, List.setIfInBounds_toArray, List.set_cons_zero, List.set_cons_succ]
  refine AnyBut.take (i := 4) (v := ?_) rfl (by as_aux_lemma => kernel_rfl) (by as_aux_lemma => kernel_rfl) (by as_aux_lemma => kernel_rfl) (by as_aux_lemma => kernel_rfl) (fun _ _ _ h => h) hHeld (by rfl) ?_ ?_
  rotate_left
  focus (intro w hSw; (try dsimp only at hSw); go_simp <;> with_reducible rfl)
  try simp only [Act.put, List.setIfInBounds_toArray, List.set_cons_zero, List.set_cons_succ]
  refine AnyBut.take (i := 5) (v := ?_) rfl (by as_aux_lemma => kernel_rfl) (by as_aux_lemma => kernel_rfl) (by as_aux_lemma => kernel_rfl) (by as_aux_lemma => kernel_rfl) (fun _ _ _ h => h) hHeld (by rfl) ?_ ?_
  rotate_left
  focus (intro w hSw; (try dsimp only at hSw); go_simp <;> with_reducible rfl)
  try simp only [Act.put, List.setIfInBounds_toArray, List.set_cons_zero, List.set_cons_succ]
  refine AnyBut.take (i := 6) (v := ?_) rfl (by as_aux_lemma => kernel_rfl) (by as_aux_lemma => kernel_rfl) (by as_aux_lemma => kernel_rfl) (by as_aux_lemma => kernel_rfl) (fun _ _ _ h => h) hHeld (by rfl) ?_ ?_
  rotate_left
  focus (intro w hSw; (try dsimp only at hSw); go_simp <;> with_reducible rfl)
  try simp only [Act.put, List.setIfInBounds_toArray, List.set_cons_zero, List.set_cons_succ]
  refine AnyBut.take (i := 7) (v := ?_) rfl (by as_aux_lemma => kernel_rfl) (by as_aux_lemma => kernel_rfl) (by as_aux_lemma => kernel_rfl) (by as_aux_lemma => kernel_rfl) (fun _ _ _ h => h) hHeld (by rfl) ?_ ?_
  rotate_left
  focus (intro w hSw; (try dsimp only at hSw); go_simp <;> with_reducible rfl)
  try simp only [Act.put, List.setIfInBounds_toArray, List.set_cons_zero, List.set_cons_succ]
  refine AnyBut.take (i := 8) (v := ?_) rfl (by as_aux_lemma => kernel_rfl) (by as_aux_lemma => kernel_rfl) (by as_aux_lemma => kernel_rfl) (by as_aux_lemma => kernel_rfl) (fun _ _ _ h => h) hHeld (by rfl) ?_ ?_
  rotate_left
  focus (intro w hSw; (try dsimp only at hSw); go_simp <;> with_reducible rfl)
  try simp only [Act.put, List.setIfInBounds_toArray, List.set_cons_zero, List.set_cons_succ]
  refine AnyBut.one (i := 9) (by as_aux_lemma => kernel_rfl) rfl (fun K hK => ?_)
  go_simp
  go_at_call 53
  refine (fixup_any W3.drew r cb 11 x z st2s0 st2p2).mono ?_
  rintro e W4 ⟨rfl, hb4⟩
  have hS4 := hSof W4 (hdr.trans hb4)
  have st4 := (Hst2.out.old hdr).old hb4
  obtain ⟨r0, r1, r2, r3, r4⟩ := st4.res.five
  have g0 := st4.res.free 0
  have g1 := st4.res.free 1
  have g2 := st4.res.free 2
  have g3 := st4.res.free 3
  have g4 := st4.res.free 4
  have lq := st4.res.lt
  have Hst4 := Lib.hid st4
  clear st4 hb4
  refine hK.out _ _ (hS4) (fun hHeld => ?_)
  clear hK K
  try simp only [Act.put, List.setIfInBounds_toArray, List.set_cons_zero, List.set_cons_succ]
  refine AnyBut.take (i := 10) (v := ?_) rfl (by as_aux_lemma => kernel_rfl) (by as_aux_lemma => kernel_rfl) (by as_aux_lemma => kernel_rfl) (by as_aux_lemma => kernel_rfl) (fun _ _ _ h => h) hHeld (by rfl) ?_ ?_
  rotate_left
  focus (intro w hSw; (try dsimp only at hSw); go_simp <;> with_reducible rfl)
  try simp only [Act.put, List.setIfInBounds_toArray, List.set_cons_zero, List.set_cons_succ]
  refine AnyBut.take (i := 11) (v := ?_) rfl (by as_aux_lemma => kernel_rfl) (by as_aux_lemma => kernel_rfl) (by as_aux_lemma => kernel_rfl) (by as_aux_lemma => kernel_rfl) (fun _ _ _ h => h) hHeld (by rfl) ?_ ?_
  rotate_left
  focus (intro w hSw; (try dsimp only at hSw); go_simp <;> with_reducible rfl)
  try simp only [Act.put, List.setIfInBounds_toArray, List.set_cons_zero, List.set_cons_succ]
  refine AnyBut.one (i := 12) (by as_aux_lemma => kernel_rfl) rfl (fun K hK => ?_)
  go_simp
  refine hK.out _ _ (hSet _ hS4 _ _ _ _ _) (fun hHeld => ?_)
  clear hK K
  try simp only [Act.put, List.setIfInBounds_toArray, List.set_cons_zero, List.set_cons_succ]
  refine AnyBut.last (by as_aux_lemma => kernel_rfl) rfl (by as_aux_lemma => kernel_rfl) (fun K hK => ?_)
  go_simp
  refine hK.out _ _ ?_
  clear hK K
  try simp only [Act.put, List.setIfInBounds_toArray, List.set_cons_zero, List.set_cons_succ]
  go_wp2_with fail
  refine bodyPost_ret (v := .tuple #[fixV 11 x z false false, .nilIface]) ?_ rfl ⟨rfl, ?_⟩
  · rw [results_cell_tmp rfl]
    go_simp
  · have hge : w.heap.size ≤ r + 1 := by have := Hst4.out.at_; omega
    exact (((((Hst4.out.bel.setCell (p := ⟨r + 1, 0, none⟩) hge _).setCell (p := ⟨r + 1, 1, none⟩) hge _).setCell (p := ⟨r + 1, 2, none⟩) hge _).setCell (p := ⟨r + 1, 3, none⟩) hge _).setCell (p := ⟨r + 1, 4, none⟩) hge _)

end
#print axioms calc10_no
#print axioms calc11_yes
end Go.Proofs.YtfilbgmbmlmdbaaGreatDoor
