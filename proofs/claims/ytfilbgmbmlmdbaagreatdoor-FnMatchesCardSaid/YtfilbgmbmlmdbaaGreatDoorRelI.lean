/- A relocation of a type: the package's own function. Nothing is claimed here. -/
import Derived.Test.YtfilbgmbmlmdbaaGreatDoorRelH
import Derived.Laws.EntriesVeiled
namespace Go.Proofs.YtfilbgmbmlmdbaaGreatDoor
open Go.RowKit Go.MapKept

/-- What Sizeof gives of an object, in later worlds too. -/
def SizeC (w : World) (v : Value) (z : Int) : Prop := ∀ W, CellsKept w W → Calls Tryz.prog 59 #[v] W fun e w' => e = .returned (.tuple #[.int .i64 z, .nilIface]) ∧ Below W.heap.size W w'
/-- The relocation, its accessor, the sentinel. -/
structure Relo (w : World) (cb ab acap : Nat) (v : Value) (k : Int) (id : Value) (a : Addr) : Prop where
  blk : Blk w cb #[v, .slice (some ⟨ab, 0, none⟩) 1 acap, .int .u32 k, id] 112
  acc : w.cell? ⟨ab, 0, none⟩ = some (.int .i64 0)
  err : w.cell? ⟨3, 0, none⟩ = some (.iface 228 (.pointer (some a)))
abbrev fix0 : Array Value := #[.int .u32 0, .int .u64 0, .int .u64 0, .bool false, .bool false]
/-- The function's own blocks: the relocation's place, the result, a closure, a zero. -/
structure CSt (w : World) (cb r : Nat) (W : World) : Prop where
  rb : Blk W r #[.pointer (some ⟨cb, 0, none⟩)] 109
  res : Blk W (r + 1) fix0 106
  fb : Blk W (r + 2) #[.func (.func 53) #[] #[.pointer (some ⟨r, 0, none⟩)]] 120
  zb : Blk W (r + 3) fix0 106
  bel : Below w.heap.size w W
  at_ : r = w.heap.size
theorem CSt.start (w : World) (cb : Nat) : CSt w cb w.heap.size ((((w.alloc (.cells #[.pointer (some ⟨cb, 0, none⟩)] 109)).alloc (.cells fix0 106)).alloc (.cells #[.func (.func 53) #[] #[.pointer (some ⟨w.heap.size, 0, none⟩)]] 120)).alloc (.cells fix0 106)) :=
  ⟨(((Blk.new _ _ _).alloc _).alloc _).alloc _, ((Blk.newAt _ _ _ (by simp)).alloc _).alloc _, (Blk.newAt _ _ _ (by simp)).alloc _, Blk.newAt _ _ _ (by simp),
    ((((Below.refl _ _).alloc (Nat.le_refl _) _).alloc (by simp) _).alloc (by simp; omega) _).alloc (by simp; omega) _, rfl⟩
theorem CSt.old {w W W' : World} {cb r : Nat} (h : CSt w cb r W) (hb : Below W.heap.size W W') : CSt w cb r W' :=
  ⟨h.rb.old hb, h.res.old hb, h.fb.old hb, h.zb.old hb, h.bel.trans (hb.mono h.bel.size), h.at_⟩
theorem Blk.four {w : World} {b : Nat} {a0 a1 a2 a3 : Value} {t : TypeId} (h : Blk w b #[a0, a1, a2, a3] t) : w.cell? ⟨b, 0, none⟩ = some a0 ∧ w.cell? ⟨b, 1, none⟩ = some a1 ∧ w.cell? ⟨b, 2, none⟩ = some a2 ∧ w.cell? ⟨b, 3, none⟩ = some a3 :=
  ⟨h.cell 0, h.cell 1, h.cell 2, h.cell 3⟩
section
variable {w : World} {n1 og1 t1 n2 og2 t2 cb ab acap : Nat} {f1 f2 : Nat → RowD} {pt1 pt2 : Nat → TypeId} {ob1 ob2 : Nat → Nat} {id bo rs : Value} {a : Addr}

set_option linter.unusedSimpArgs false in
set_option maxRecDepth 100000 in
set_option maxHeartbeats 4000000 in
theorem calc8_no (h1 : Outs w n1 f1 og1 pt1 ob1) (h2 : Outs w n2 f2 og2 pt2 ob2) (ht1 : t1 < n1) (ht2 : t2 < n2) (hp1 : Peels n1 f1) (hp2 : Peels n2 f2)
    (c1 : Tight n1 f1 (und f1 t1)) (c2 : Tight n2 f2 (und f2 t2)) (hR : Relo w cb ab acap (objAt pt1 ob1 t1) 8 id a) (hk : (f1 (und f1 t1)).k ≠ (f2 (und f2 t2)).k) :
    Calls Tryz.prog 44 #[.pointer (some ⟨cb, 0, none⟩), objAt pt2 ob2 t2, bo, rs] w fun e w' => e = .returned (.tuple #[poiV 8, .nilIface]) ∧ Below w.heap.size w w' := by
  rw [show poiV 8 = fixV 8 1 0 false false from rfl]
  obtain ⟨p0, p1, p2, p3⟩ := hR.blk.four
  have q0 := hR.acc
  have e0 := hR.err
  have lc := hR.blk.lt
  have la := World.block_lt_of_cell? w _ q0
  have le := World.block_lt_of_cell? w _ e0
  simp only at la le
  have HR := Lib.hid hR
  have H1 := Lib.hid h1
  have H2 := Lib.hid h2
  have C1 := Lib.hid c1
  have C2 := Lib.hid c2
  have P1 := Lib.hid hp1
  have P2 := Lib.hid hp2
  have HK := Lib.hid hk
  clear hR h1 h2 c1 c2 hp1 hp2 hk
  go_enter Tryz.func44, Tryz.ntmps44
  go_upto_region 5 with fail
  refine wp_world (CSt w cb w.heap.size) (CSt.start w cb) (fun W st => ?_)
  obtain ⟨r, hr⟩ : ∃ r, r = w.heap.size := ⟨_, rfl⟩
  rw [← hr] at st ⊢
  clear hr
  have p0W := (st.bel.cell (p := ⟨cb, 0, none⟩) lc).trans p0
  have p1W := (st.bel.cell (p := ⟨cb, 1, none⟩) lc).trans p1
  have p2W := (st.bel.cell (p := ⟨cb, 2, none⟩) lc).trans p2
  have q0W := (st.bel.cell (p := ⟨ab, 0, none⟩) la).trans q0
  have e0W := (st.bel.cell (p := ⟨3, 0, none⟩) le).trans e0
  have s0W := st.rb.cell 0
  have f0W := st.fb.cell 0
  simp only [List.getElem?_toArray, List.getElem?_cons_zero] at s0W f0W
  have lcW := Nat.lt_of_lt_of_le lc st.bel.size
  have laW := Nat.lt_of_lt_of_le la st.bel.size
  have leW := Nat.lt_of_lt_of_le le st.bel.size
  have lrW := st.rb.lt
  have lfW := st.fb.lt
  have Hst := Lib.hid st
  go_wp2_with fail
  refine (check_any (H1.out.ck (CellsKept.below Hst.out.bel)) (H2.out.ck (CellsKept.below Hst.out.bel)) ht1 ht2 P1.out P2.out C1.out C2.out e0W).mono ?_
  rintro e W2 ⟨rfl, hb2⟩
  rw [if_neg HK.out]
  have st2 := Hst.out.old hb2
  have bel2 := st2.bel
  clear st
  have st2p0 := (bel2.cell (p := ⟨cb, 0, none⟩) lc).trans p0
  have st2p1 := (bel2.cell (p := ⟨cb, 1, none⟩) lc).trans p1
  have st2p2 := (bel2.cell (p := ⟨cb, 2, none⟩) lc).trans p2
  have st2e0 := (bel2.cell (p := ⟨3, 0, none⟩) le).trans e0
  have st2s0 := st2.rb.cell 0
  have st2f0 := st2.fb.cell 0
  simp only [List.getElem?_toArray, List.getElem?_cons_zero] at st2s0 st2f0
  have st2lc := Nat.lt_of_lt_of_le lc bel2.size
  have st2le := Nat.lt_of_lt_of_le le bel2.size
  have st2lr := st2.rb.lt
  have st2lf := st2.fb.lt
  obtain ⟨r0, r1, r2, r3, r4⟩ := st2.res.five
  have g0 := st2.res.free 0
  have g1 := st2.res.free 1
  have g2 := st2.res.free 2
  have g3 := st2.res.free 3
  have g4 := st2.res.free 4
  have lq := st2.res.lt
  have Hst2 := Lib.hid st2
  have Hbel2 := Lib.hid bel2
  clear st2 bel2 hb2
  clear p0W p1W p2W e0W s0W f0W lcW laW leW lrW lfW q0W
  go_wp2_with fail
  refine (is_same a W2).mono ?_
  rintro e W3 ⟨rfl, rfl⟩
  go_wp2_with fail
  refine (poison_any W3 r (r + 2) cb 8 (by omega) (by omega) st2s0 st2p2 st2f0).mono ?_
  rintro e W4 ⟨rfl, hb4⟩
  rw [show poiV 8 = fixV 8 1 0 false false from rfl]
  have st4 := Hst2.out.old hb4
  clear r0 r1 r2 r3 r4 g0 g1 g2 g3 g4 lq
  obtain ⟨r0, r1, r2, r3, r4⟩ := st4.res.five
  have g0 := st4.res.free 0
  have g1 := st4.res.free 1
  have g2 := st4.res.free 2
  have g3 := st4.res.free 3
  have g4 := st4.res.free 4
  have lq := st4.res.lt
  have Hst4 := Lib.hid st4
  clear st4 hb4
  go_wp2_with fail
  refine bodyPost_ret (v := .tuple #[fixV 8 1 0 false false, .nilIface]) ?_ rfl ⟨rfl, ?_⟩
  · rw [results_cell_tmp rfl]
    go_simp
  · have hge : w.heap.size ≤ r + 1 := by have := Hst4.out.at_; omega
    exact (((((Hst4.out.bel.setCell (p := ⟨r + 1, 0, none⟩) hge _).setCell (p := ⟨r + 1, 1, none⟩) hge _).setCell (p := ⟨r + 1, 2, none⟩) hge _).setCell (p := ⟨r + 1, 3, none⟩) hge _).setCell (p := ⟨r + 1, 4, none⟩) hge _)

set_option linter.unusedSimpArgs false in
set_option maxRecDepth 100000 in
set_option maxHeartbeats 4000000 in
theorem calc9_no (h1 : Outs w n1 f1 og1 pt1 ob1) (h2 : Outs w n2 f2 og2 pt2 ob2) (ht1 : t1 < n1) (ht2 : t2 < n2) (hp1 : Peels n1 f1) (hp2 : Peels n2 f2)
    (c1 : Tight n1 f1 (und f1 t1)) (c2 : Tight n2 f2 (und f2 t2)) (hR : Relo w cb ab acap (objAt pt1 ob1 t1) 9 id a) (hk : (f1 (und f1 t1)).k ≠ (f2 (und f2 t2)).k) :
    Calls Tryz.prog 44 #[.pointer (some ⟨cb, 0, none⟩), objAt pt2 ob2 t2, bo, rs] w fun e w' => e = .returned (.tuple #[poiV 9, .nilIface]) ∧ Below w.heap.size w w' := by
  rw [show poiV 9 = fixV 9 0 0 true false from rfl]
  obtain ⟨p0, p1, p2, p3⟩ := hR.blk.four
  have q0 := hR.acc
  have e0 := hR.err
  have lc := hR.blk.lt
  have la := World.block_lt_of_cell? w _ q0
  have le := World.block_lt_of_cell? w _ e0
  simp only at la le
  have HR := Lib.hid hR
  have H1 := Lib.hid h1
  have H2 := Lib.hid h2
  have C1 := Lib.hid c1
  have C2 := Lib.hid c2
  have P1 := Lib.hid hp1
  have P2 := Lib.hid hp2
  have HK := Lib.hid hk
  clear hR h1 h2 c1 c2 hp1 hp2 hk
  go_enter Tryz.func44, Tryz.ntmps44
  go_upto_region 5 with fail
  refine wp_world (CSt w cb w.heap.size) (CSt.start w cb) (fun W st => ?_)
  obtain ⟨r, hr⟩ : ∃ r, r = w.heap.size := ⟨_, rfl⟩
  rw [← hr] at st ⊢
  clear hr
  have p0W := (st.bel.cell (p := ⟨cb, 0, none⟩) lc).trans p0
  have p1W := (st.bel.cell (p := ⟨cb, 1, none⟩) lc).trans p1
  have p2W := (st.bel.cell (p := ⟨cb, 2, none⟩) lc).trans p2
  have q0W := (st.bel.cell (p := ⟨ab, 0, none⟩) la).trans q0
  have e0W := (st.bel.cell (p := ⟨3, 0, none⟩) le).trans e0
  have s0W := st.rb.cell 0
  have f0W := st.fb.cell 0
  simp only [List.getElem?_toArray, List.getElem?_cons_zero] at s0W f0W
  have lcW := Nat.lt_of_lt_of_le lc st.bel.size
  have laW := Nat.lt_of_lt_of_le la st.bel.size
  have leW := Nat.lt_of_lt_of_le le st.bel.size
  have lrW := st.rb.lt
  have lfW := st.fb.lt
  have Hst := Lib.hid st
  go_wp2_with fail
  refine (check_any (H1.out.ck (CellsKept.below Hst.out.bel)) (H2.out.ck (CellsKept.below Hst.out.bel)) ht1 ht2 P1.out P2.out C1.out C2.out e0W).mono ?_
  rintro e W2 ⟨rfl, hb2⟩
  rw [if_neg HK.out]
  have st2 := Hst.out.old hb2
  have bel2 := st2.bel
  clear st
  have st2p0 := (bel2.cell (p := ⟨cb, 0, none⟩) lc).trans p0
  have st2p1 := (bel2.cell (p := ⟨cb, 1, none⟩) lc).trans p1
  have st2p2 := (bel2.cell (p := ⟨cb, 2, none⟩) lc).trans p2
  have st2e0 := (bel2.cell (p := ⟨3, 0, none⟩) le).trans e0
  have st2s0 := st2.rb.cell 0
  have st2f0 := st2.fb.cell 0
  simp only [List.getElem?_toArray, List.getElem?_cons_zero] at st2s0 st2f0
  have st2lc := Nat.lt_of_lt_of_le lc bel2.size
  have st2le := Nat.lt_of_lt_of_le le bel2.size
  have st2lr := st2.rb.lt
  have st2lf := st2.fb.lt
  obtain ⟨r0, r1, r2, r3, r4⟩ := st2.res.five
  have g0 := st2.res.free 0
  have g1 := st2.res.free 1
  have g2 := st2.res.free 2
  have g3 := st2.res.free 3
  have g4 := st2.res.free 4
  have lq := st2.res.lt
  have Hst2 := Lib.hid st2
  have Hbel2 := Lib.hid bel2
  clear st2 bel2 hb2
  clear p0W p1W p2W e0W s0W f0W lcW laW leW lrW lfW q0W
  go_wp2_with fail
  refine (is_same a W2).mono ?_
  rintro e W3 ⟨rfl, rfl⟩
  go_wp2_with fail
  refine (poison_any W3 r (r + 2) cb 9 (by omega) (by omega) st2s0 st2p2 st2f0).mono ?_
  rintro e W4 ⟨rfl, hb4⟩
  rw [show poiV 9 = fixV 9 0 0 true false from rfl]
  have st4 := Hst2.out.old hb4
  clear r0 r1 r2 r3 r4 g0 g1 g2 g3 g4 lq
  obtain ⟨r0, r1, r2, r3, r4⟩ := st4.res.five
  have g0 := st4.res.free 0
  have g1 := st4.res.free 1
  have g2 := st4.res.free 2
  have g3 := st4.res.free 3
  have g4 := st4.res.free 4
  have lq := st4.res.lt
  have Hst4 := Lib.hid st4
  clear st4 hb4
  go_wp2_with fail
  refine bodyPost_ret (v := .tuple #[fixV 9 0 0 true false, .nilIface]) ?_ rfl ⟨rfl, ?_⟩
  · rw [results_cell_tmp rfl]
    go_simp
  · have hge : w.heap.size ≤ r + 1 := by have := Hst4.out.at_; omega
    exact (((((Hst4.out.bel.setCell (p := ⟨r + 1, 0, none⟩) hge _).setCell (p := ⟨r + 1, 1, none⟩) hge _).setCell (p := ⟨r + 1, 2, none⟩) hge _).setCell (p := ⟨r + 1, 3, none⟩) hge _).setCell (p := ⟨r + 1, 4, none⟩) hge _)

set_option linter.unusedSimpArgs false in
set_option maxRecDepth 100000 in
set_option maxHeartbeats 4000000 in
theorem calc8_yes (h1 : Outs w n1 f1 og1 pt1 ob1) (h2 : Outs w n2 f2 og2 pt2 ob2) (ht1 : t1 < n1) (ht2 : t2 < n2) (hp1 : Peels n1 f1) (hp2 : Peels n2 f2)
    (c1 : Tight n1 f1 (und f1 t1)) (c2 : Tight n2 f2 (und f2 t2)) (hR : Relo w cb ab acap (objAt pt1 ob1 t1) 8 id a) (hk : (f1 (und f1 t1)).k = (f2 (und f2 t2)).k) :
    Calls Tryz.prog 44 #[.pointer (some ⟨cb, 0, none⟩), objAt pt2 ob2 t2, bo, rs] w fun e w' => e = .returned (.tuple #[fixV 8 1 1 false false, .nilIface]) ∧ Below w.heap.size w w' := by
  obtain ⟨p0, p1, p2, p3⟩ := hR.blk.four
  have q0 := hR.acc
  have e0 := hR.err
  have lc := hR.blk.lt
  have la := World.block_lt_of_cell? w _ q0
  have le := World.block_lt_of_cell? w _ e0
  simp only at la le
  have HR := Lib.hid hR
  have H1 := Lib.hid h1
  have H2 := Lib.hid h2
  have C1 := Lib.hid c1
  have C2 := Lib.hid c2
  have P1 := Lib.hid hp1
  have P2 := Lib.hid hp2
  have HK := Lib.hid hk
  clear hR h1 h2 c1 c2 hp1 hp2 hk
  go_enter Tryz.func44, Tryz.ntmps44
  go_upto_region 5 with fail
  refine wp_world (CSt w cb w.heap.size) (CSt.start w cb) (fun W st => ?_)
  obtain ⟨r, hr⟩ : ∃ r, r = w.heap.size := ⟨_, rfl⟩
  rw [← hr] at st ⊢
  clear hr
  have p0W := (st.bel.cell (p := ⟨cb, 0, none⟩) lc).trans p0
  have p1W := (st.bel.cell (p := ⟨cb, 1, none⟩) lc).trans p1
  have p2W := (st.bel.cell (p := ⟨cb, 2, none⟩) lc).trans p2
  have q0W := (st.bel.cell (p := ⟨ab, 0, none⟩) la).trans q0
  have e0W := (st.bel.cell (p := ⟨3, 0, none⟩) le).trans e0
  have s0W := st.rb.cell 0
  have f0W := st.fb.cell 0
  simp only [List.getElem?_toArray, List.getElem?_cons_zero] at s0W f0W
  have lcW := Nat.lt_of_lt_of_le lc st.bel.size
  have laW := Nat.lt_of_lt_of_le la st.bel.size
  have leW := Nat.lt_of_lt_of_le le st.bel.size
  have lrW := st.rb.lt
  have lfW := st.fb.lt
  have Hst := Lib.hid st
  go_wp2_with fail
  refine (check_any (H1.out.ck (CellsKept.below Hst.out.bel)) (H2.out.ck (CellsKept.below Hst.out.bel)) ht1 ht2 P1.out P2.out C1.out C2.out e0W).mono ?_
  rintro e W2 ⟨rfl, hb2⟩
  rw [if_pos HK.out]
  have st2 := Hst.out.old hb2
  have bel2 := st2.bel
  clear st
  have st2p0 := (bel2.cell (p := ⟨cb, 0, none⟩) lc).trans p0
  have st2p1 := (bel2.cell (p := ⟨cb, 1, none⟩) lc).trans p1
  have st2p2 := (bel2.cell (p := ⟨cb, 2, none⟩) lc).trans p2
  have st2e0 := (bel2.cell (p := ⟨3, 0, none⟩) le).trans e0
  have st2s0 := st2.rb.cell 0
  have st2f0 := st2.fb.cell 0
  simp only [List.getElem?_toArray, List.getElem?_cons_zero] at st2s0 st2f0
  have st2lc := Nat.lt_of_lt_of_le lc bel2.size
  have st2le := Nat.lt_of_lt_of_le le bel2.size
  have st2lr := st2.rb.lt
  have st2lf := st2.fb.lt
  obtain ⟨r0, r1, r2, r3, r4⟩ := st2.res.five
  have g0 := st2.res.free 0
  have g1 := st2.res.free 1
  have g2 := st2.res.free 2
  have g3 := st2.res.free 3
  have g4 := st2.res.free 4
  have lq := st2.res.lt
  have Hst2 := Lib.hid st2
  have Hbel2 := Lib.hid bel2
  clear st2 bel2 hb2
  clear p0W p1W p2W e0W s0W f0W lcW laW leW lrW lfW q0W
  go_wp2_with fail
  refine (is_nil a W2).mono ?_
  rintro e W3 ⟨rfl, rfl⟩
  go_wp2_with fail
  refine (fixup_any W3 r cb 8 1 1 st2s0 st2p2).mono ?_
  rintro e W4 ⟨rfl, hb4⟩
  have st4 := Hst2.out.old hb4
  clear r0 r1 r2 r3 r4 g0 g1 g2 g3 g4 lq
  obtain ⟨r0, r1, r2, r3, r4⟩ := st4.res.five
  have g0 := st4.res.free 0
  have g1 := st4.res.free 1
  have g2 := st4.res.free 2
  have g3 := st4.res.free 3
  have g4 := st4.res.free 4
  have lq := st4.res.lt
  have Hst4 := Lib.hid st4
  clear st4 hb4
  go_wp2_with fail
  refine bodyPost_ret (v := .tuple #[fixV 8 1 1 false false, .nilIface]) ?_ rfl ⟨rfl, ?_⟩
  · rw [results_cell_tmp rfl]
    go_simp
  · have hge : w.heap.size ≤ r + 1 := by have := Hst4.out.at_; omega
    exact (((((Hst4.out.bel.setCell (p := ⟨r + 1, 0, none⟩) hge _).setCell (p := ⟨r + 1, 1, none⟩) hge _).setCell (p := ⟨r + 1, 2, none⟩) hge _).setCell (p := ⟨r + 1, 3, none⟩) hge _).setCell (p := ⟨r + 1, 4, none⟩) hge _)

set_option linter.unusedSimpArgs false in
set_option maxRecDepth 100000 in
set_option maxHeartbeats 4000000 in
theorem calc9_yes (h1 : Outs w n1 f1 og1 pt1 ob1) (h2 : Outs w n2 f2 og2 pt2 ob2) (ht1 : t1 < n1) (ht2 : t2 < n2) (hp1 : Peels n1 f1) (hp2 : Peels n2 f2)
    (c1 : Tight n1 f1 (und f1 t1)) (c2 : Tight n2 f2 (und f2 t2)) (hR : Relo w cb ab acap (objAt pt1 ob1 t1) 9 id a) (hk : (f1 (und f1 t1)).k = (f2 (und f2 t2)).k) {z1 z2 : Int} (hz1 : 0 ≤ z1 ∧ z1 ≤ 1000000000) (hz2 : 0 ≤ z2 ∧ z2 ≤ 1000000000) (hs1 : SizeC w (objAt pt1 ob1 t1) z1) (hs2 : SizeC w (objAt pt2 ob2 t2) z2) :
    Calls Tryz.prog 44 #[.pointer (some ⟨cb, 0, none⟩), objAt pt2 ob2 t2, bo, rs] w fun e w' => e = .returned (.tuple #[fixV 9 z1 z2 false false, .nilIface]) ∧ Below w.heap.size w w' := by
  have S1 := Lib.hid hs1
  have S2 := Lib.hid hs2
  clear hs1 hs2
  obtain ⟨z10, z11⟩ := hz1
  obtain ⟨z20, z21⟩ := hz2
  obtain ⟨p0, p1, p2, p3⟩ := hR.blk.four
  have q0 := hR.acc
  have e0 := hR.err
  have lc := hR.blk.lt
  have la := World.block_lt_of_cell? w _ q0
  have le := World.block_lt_of_cell? w _ e0
  simp only at la le
  have HR := Lib.hid hR
  have H1 := Lib.hid h1
  have H2 := Lib.hid h2
  have C1 := Lib.hid c1
  have C2 := Lib.hid c2
  have P1 := Lib.hid hp1
  have P2 := Lib.hid hp2
  have HK := Lib.hid hk
  clear hR h1 h2 c1 c2 hp1 hp2 hk
  go_enter Tryz.func44, Tryz.ntmps44
  go_upto_region 5 with fail
  refine wp_world (CSt w cb w.heap.size) (CSt.start w cb) (fun W st => ?_)
  obtain ⟨r, hr⟩ : ∃ r, r = w.heap.size := ⟨_, rfl⟩
  rw [← hr] at st ⊢
  clear hr
  have p0W := (st.bel.cell (p := ⟨cb, 0, none⟩) lc).trans p0
  have p1W := (st.bel.cell (p := ⟨cb, 1, none⟩) lc).trans p1
  have p2W := (st.bel.cell (p := ⟨cb, 2, none⟩) lc).trans p2
  have q0W := (st.bel.cell (p := ⟨ab, 0, none⟩) la).trans q0
  have e0W := (st.bel.cell (p := ⟨3, 0, none⟩) le).trans e0
  have s0W := st.rb.cell 0
  have f0W := st.fb.cell 0
  simp only [List.getElem?_toArray, List.getElem?_cons_zero] at s0W f0W
  have lcW := Nat.lt_of_lt_of_le lc st.bel.size
  have laW := Nat.lt_of_lt_of_le la st.bel.size
  have leW := Nat.lt_of_lt_of_le le st.bel.size
  have lrW := st.rb.lt
  have lfW := st.fb.lt
  have Hst := Lib.hid st
  go_wp2_with fail
  refine (check_any (H1.out.ck (CellsKept.below Hst.out.bel)) (H2.out.ck (CellsKept.below Hst.out.bel)) ht1 ht2 P1.out P2.out C1.out C2.out e0W).mono ?_
  rintro e W2 ⟨rfl, hb2⟩
  rw [if_pos HK.out]
  have st2 := Hst.out.old hb2
  have bel2 := st2.bel
  clear st
  have st2p0 := (bel2.cell (p := ⟨cb, 0, none⟩) lc).trans p0
  have st2p1 := (bel2.cell (p := ⟨cb, 1, none⟩) lc).trans p1
  have st2p2 := (bel2.cell (p := ⟨cb, 2, none⟩) lc).trans p2
  have st2e0 := (bel2.cell (p := ⟨3, 0, none⟩) le).trans e0
  have st2s0 := st2.rb.cell 0
  have st2f0 := st2.fb.cell 0
  simp only [List.getElem?_toArray, List.getElem?_cons_zero] at st2s0 st2f0
  have st2lc := Nat.lt_of_lt_of_le lc bel2.size
  have st2le := Nat.lt_of_lt_of_le le bel2.size
  have st2lr := st2.rb.lt
  have st2lf := st2.fb.lt
  obtain ⟨r0, r1, r2, r3, r4⟩ := st2.res.five
  have g0 := st2.res.free 0
  have g1 := st2.res.free 1
  have g2 := st2.res.free 2
  have g3 := st2.res.free 3
  have g4 := st2.res.free 4
  have lq := st2.res.lt
  have Hst2 := Lib.hid st2
  have Hbel2 := Lib.hid bel2
  clear st2 bel2 hb2
  clear p0W p1W p2W e0W s0W f0W lcW laW leW lrW lfW q0W
  go_wp2_with fail
  refine (is_nil a W2).mono ?_
  rintro e W3 ⟨rfl, rfl⟩
  go_wp2_with fail
  refine (S1.out W3 (CellsKept.below Hbel2.out)).mono ?_
  rintro e W4 ⟨rfl, hb4⟩
  have st4 := Hst2.out.old hb4
  have bel4 := st4.bel
  have Hst4 := Lib.hid st4
  have Hbel4 := Lib.hid bel4
  clear st4 bel4 hb4 r0 r1 r2 r3 r4 g0 g1 g2 g3 g4 lq
  go_wp2_with fail
  refine (S2.out W4 (CellsKept.below Hbel4.out)).mono ?_
  rintro e W5 ⟨rfl, hb5⟩
  have st5 := Hst4.out.old hb5
  have bel5 := st5.bel
  have st5p0 := (bel5.cell (p := ⟨cb, 0, none⟩) lc).trans p0
  have st5p1 := (bel5.cell (p := ⟨cb, 1, none⟩) lc).trans p1
  have st5p2 := (bel5.cell (p := ⟨cb, 2, none⟩) lc).trans p2
  have st5e0 := (bel5.cell (p := ⟨3, 0, none⟩) le).trans e0
  have st5s0 := st5.rb.cell 0
  have st5f0 := st5.fb.cell 0
  simp only [List.getElem?_toArray, List.getElem?_cons_zero] at st5s0 st5f0
  have st5lc := Nat.lt_of_lt_of_le lc bel5.size
  have st5le := Nat.lt_of_lt_of_le le bel5.size
  have st5lr := st5.rb.lt
  have st5lf := st5.fb.lt
  obtain ⟨r0, r1, r2, r3, r4⟩ := st5.res.five
  have g0 := st5.res.free 0
  have g1 := st5.res.free 1
  have g2 := st5.res.free 2
  have g3 := st5.res.free 3
  have g4 := st5.res.free 4
  have lq := st5.res.lt
  have Hst5 := Lib.hid st5
  clear st5 bel5 hb5
  go_wp2_with fail
  refine (fixup_any W5 r cb 9 z1 z2 st5s0 st5p2).mono ?_
  rintro e W6 ⟨rfl, hb6⟩
  have st6 := Hst5.out.old hb6
  clear r0 r1 r2 r3 r4 g0 g1 g2 g3 g4 lq
  obtain ⟨r0, r1, r2, r3, r4⟩ := st6.res.five
  have g0 := st6.res.free 0
  have g1 := st6.res.free 1
  have g2 := st6.res.free 2
  have g3 := st6.res.free 3
  have g4 := st6.res.free 4
  have lq := st6.res.lt
  have Hst6 := Lib.hid st6
  clear st6 hb6
  go_wp2_with fail
  refine bodyPost_ret (v := .tuple #[fixV 9 z1 z2 false false, .nilIface]) ?_ rfl ⟨rfl, ?_⟩
  · rw [results_cell_tmp rfl]
    go_simp
  · have hge : w.heap.size ≤ r + 1 := by have := Hst6.out.at_; omega
    exact (((((Hst6.out.bel.setCell (p := ⟨r + 1, 0, none⟩) hge _).setCell (p := ⟨r + 1, 1, none⟩) hge _).setCell (p := ⟨r + 1, 2, none⟩) hge _).setCell (p := ⟨r + 1, 3, none⟩) hge _).setCell (p := ⟨r + 1, 4, none⟩) hge _)

end
#print axioms calc8_no
#print axioms calc9_yes
end Go.Proofs.YtfilbgmbmlmdbaaGreatDoor
