/- The law FnMatches answers true: the walk. -/
import Derived.Test.YtfilbgmbmlmdbaaGreatDoorWe
import Derived.Test.YtfilbgmbmlmdbaaGreatDoorRelK
import Derived.Test.YtfilbgmbmlmdbaaGreatDoorWh
import Derived.Test.YtfilbgmbmlmdbaaGreatDoorWc
import Derived.Test.YtfilbgmbmlmdbaaGreatDoorWa
import Derived.Test.YtfilbgmbmlmdbaaGreatDoorTurnD
import Derived.Deep.DeepCutAuto
import Derived.Deep.CutBlock
namespace Go.Proofs.YtfilbgmbmlmdbaaGreatDoor
open Go.RowKit Go.MapKept

/-- What the comparison gives, in later worlds too. -/
def MatC (w : World) (x y : Value) (b : Bool) (a : Addr) : Prop := ∀ W, Below w.heap.size w W → Calls Tryz.prog 47 #[x, y, .map none] W fun e w' => e = .returned (if b = true then .nilIface else .iface 228 (.pointer (some a))) ∧ Below W.heap.size W w'
theorem match_any {T : Two} (g1 : Refs T.n1 T.f1) (g2 : Refs T.n2 T.f2) {a : Addr} {t u : Ty} {i j : Nat} {w : World} (ot : OkM t) (ou : OkM u) (r : RT T.f1 i t) (s : RT T.f2 j u) (hi : i < T.n1) (hj : j < T.n2) (hT : T.In w)
    (hev : w.cell? ⟨3, 0, none⟩ = some (.iface 228 (.pointer (some a)))) : MatC w (objAt T.pt1 T.ob1 i) (objAt T.pt2 T.ob2 j) (tm t u) a := by
  intro W hW
  refine (core_any g1 g2 (mv := .map none) (S := fun _ _ => False) t.cnt (Nat.le_refl _) ot ou r s hi hj (hT.ck (CellsKept.below hW)) (.inl rfl) (fun _ _ h => h.elim) ((CellsKept.below hW).cell hev)).mono ?_
  rintro e w' ⟨h | h, hx⟩
  · rw [if_pos h.1]; exact ⟨h.2.1, hx.nil rfl⟩
  · rw [if_neg (by rw [h.1]; decide)]; exact ⟨h.2, hx.nil rfl⟩
set_option maxRecDepth 100000 in
set_option maxHeartbeats 4000000 in
theorem zzMatch_any {w : World} {x y : Value} {b : Bool} {a : Addr} (h : MatC w x y b a) : Calls Tryz.prog 42 #[x, y] w fun e w' => e = .returned (if b = true then .nilIface else .iface 228 (.pointer (some a))) ∧ Below w.heap.size w w' := by
  have HH := Lib.hid (h w (Below.refl _ _))
  obtain ⟨v, hv⟩ : ∃ v, (if b = true then Value.nilIface else .iface 228 (.pointer (some a))) = v := ⟨_, rfl⟩
  rw [hv] at HH ⊢
  clear h hv
  go_enter Tryz.func42, Tryz.ntmps42
  go_wp2_with fail
  refine HH.out.mono ?_
  rintro e w1 ⟨rfl, hb⟩
  go_wp2_with fail
  go_ret
  exact ⟨rfl, hb⟩
section
variable {w : World} {x y id bo rs : Value} {cb ab acap : Nat} {a : Addr}

set_option linter.unusedSimpArgs false in
set_option maxRecDepth 100000 in
set_option maxHeartbeats 4000000 in
theorem calc12_no (hR : Relo w cb ab acap x 12 id a) (hM : MatC w x y false a) :
    Calls Tryz.prog 44 #[.pointer (some ⟨cb, 0, none⟩), y, bo, rs] w fun e w' => e = .returned (.tuple #[poiV 12, .nilIface]) ∧ Below w.heap.size w w' := by
  rw [show poiV 12 = fixV 12 1 0 false false from rfl]
  obtain ⟨p0, p1, p2, p3⟩ := hR.blk.four
  have q0 := hR.acc
  have e0 := hR.err
  have lc := hR.blk.lt
  have la := World.block_lt_of_cell? w _ q0
  have le := World.block_lt_of_cell? w _ e0
  simp only at la le
  have HR := Lib.hid hR
  have HM := Lib.hid hM
  clear hR hM
  go_enter Tryz.func44, Tryz.ntmps44
  go_upto_region 5 with fail
  refine wp_world (CSt w cb w.heap.size) (CSt.start w cb) (fun W st => ?_)
  obtain ⟨r, hr⟩ : ∃ r, r = w.heap.size := ⟨_, rfl⟩
  rw [← hr] at st ⊢
  clear hr
  have p0W := (st.bel.cell (p := ⟨cb, 0, none⟩) lc).trans p0
  have p1W := (st.bel.cell (p := ⟨cb, 1, none⟩) lc).trans p1
  have p2W := (st.bel.cell (p := ⟨cb, 2, none⟩) lc).trans p2
  have q0W := (st.bel.cell (p := ⟨ab, 0, none⟩) la).trans q0
  have e0W := (st.bel.cell (p := ⟨3, 0, none⟩) le).trans e0
  have s0W := st.rb.cell 0
  have f0W := st.fb.cell 0
  simp only [List.getElem?_toArray, List.getElem?_cons_zero] at s0W f0W
  have lcW := Nat.lt_of_lt_of_le lc st.bel.size
  have laW := Nat.lt_of_lt_of_le la st.bel.size
  have leW := Nat.lt_of_lt_of_le le st.bel.size
  have lrW := st.rb.lt
  have lfW := st.fb.lt
  have Hst := Lib.hid st
  go_wp2_with fail
  refine (HM.out W Hst.out.bel).mono ?_
  rintro e W2 ⟨rfl, hb2⟩
  rw [if_neg Bool.false_ne_true]
  have st2 := Hst.out.old hb2
  have bel2 := st2.bel
  clear st
  have st2p0 := (bel2.cell (p := ⟨cb, 0, none⟩) lc).trans p0
  have st2p1 := (bel2.cell (p := ⟨cb, 1, none⟩) lc).trans p1
  have st2p2 := (bel2.cell (p := ⟨cb, 2, none⟩) lc).trans p2
  have st2e0 := (bel2.cell (p := ⟨3, 0, none⟩) le).trans e0
  have st2s0 := st2.rb.cell 0
  have st2f0 := st2.fb.cell 0
  simp only [List.getElem?_toArray, List.getElem?_cons_zero] at st2s0 st2f0
  have st2lc := Nat.lt_of_lt_of_le lc bel2.size
  have st2le := Nat.lt_of_lt_of_le le bel2.size
  have st2lr := st2.rb.lt
  have st2lf := st2.fb.lt
  obtain ⟨r0, r1, r2, r3, r4⟩ := st2.res.five
  have g0 := st2.res.free 0
  have g1 := st2.res.free 1
  have g2 := st2.res.free 2
  have g3 := st2.res.free 3
  have g4 := st2.res.free 4
  have lq := st2.res.lt
  have Hst2 := Lib.hid st2
  clear st2 bel2 hb2
  clear p0W p1W p2W e0W s0W f0W lcW laW leW lrW lfW q0W
  go_wp2_with fail
  refine (is_same a W2).mono ?_
  rintro e W3 ⟨rfl, rfl⟩
  go_wp2_with fail
  refine (poison_any W3 r (r + 2) cb 12 (by omega) (by omega) st2s0 st2p2 st2f0).mono ?_
  rintro e W4 ⟨rfl, hb4⟩
  rw [show poiV 12 = fixV 12 1 0 false false from rfl]
  have st4 := Hst2.out.old hb4
  clear r0 r1 r2 r3 r4 g0 g1 g2 g3 g4 lq
  obtain ⟨r0, r1, r2, r3, r4⟩ := st4.res.five
  have g0 := st4.res.free 0
  have g1 := st4.res.free 1
  have g2 := st4.res.free 2
  have g3 := st4.res.free 3
  have g4 := st4.res.free 4
  have lq := st4.res.lt
  have Hst4 := Lib.hid st4
  clear st4 hb4
  go_wp2_with fail
  refine bodyPost_ret (v := .tuple #[fixV 12 1 0 false false, .nilIface]) ?_ rfl ⟨rfl, ?_⟩
  · rw [results_cell_tmp rfl]
    go_simp
  · have hge : w.heap.size ≤ r + 1 := by have := Hst4.out.at_; omega
    exact (((((Hst4.out.bel.setCell (p := ⟨r + 1, 0, none⟩) hge _).setCell (p := ⟨r + 1, 1, none⟩) hge _).setCell (p := ⟨r + 1, 2, none⟩) hge _).setCell (p := ⟨r + 1, 3, none⟩) hge _).setCell (p := ⟨r + 1, 4, none⟩) hge _)

set_option linter.unusedSimpArgs false in
set_option maxRecDepth 100000 in
set_option maxHeartbeats 4000000 in
theorem calc12_yes (hR : Relo w cb ab acap x 12 id a) (hM : MatC w x y true a) :
    Calls Tryz.prog 44 #[.pointer (some ⟨cb, 0, none⟩), y, bo, rs] w fun e w' => e = .returned (.tuple #[fixV 12 1 1 false false, .nilIface]) ∧ Below w.heap.size w w' := by
  obtain ⟨p0, p1, p2, p3⟩ := hR.blk.four
  have q0 := hR.acc
  have e0 := hR.err
  have lc := hR.blk.lt
  have la := World.block_lt_of_cell? w _ q0
  have le := World.block_lt_of_cell? w _ e0
  simp only at la le
  have HR := Lib.hid hR
  have HM := Lib.hid hM
  clear hR hM
  go_enter Tryz.func44, Tryz.ntmps44
  go_upto_region 5 with fail
  refine wp_world (CSt w cb w.heap.size) (CSt.start w cb) (fun W st => ?_)
  obtain ⟨r, hr⟩ : ∃ r, r = w.heap.size := ⟨_, rfl⟩
  rw [← hr] at st ⊢
  clear hr
  have p0W := (st.bel.cell (p := ⟨cb, 0, none⟩) lc).trans p0
  have p1W := (st.bel.cell (p := ⟨cb, 1, none⟩) lc).trans p1
  have p2W := (st.bel.cell (p := ⟨cb, 2, none⟩) lc).trans p2
  have q0W := (st.bel.cell (p := ⟨ab, 0, none⟩) la).trans q0
  have e0W := (st.bel.cell (p := ⟨3, 0, none⟩) le).trans e0
  have s0W := st.rb.cell 0
  have f0W := st.fb.cell 0
  simp only [List.getElem?_toArray, List.getElem?_cons_zero] at s0W f0W
  have lcW := Nat.lt_of_lt_of_le lc st.bel.size
  have laW := Nat.lt_of_lt_of_le la st.bel.size
  have leW := Nat.lt_of_lt_of_le le st.bel.size
  have lrW := st.rb.lt
  have lfW := st.fb.lt
  have Hst := Lib.hid st
  go_wp2_with fail
  refine (HM.out W Hst.out.bel).mono ?_
  rintro e W2 ⟨rfl, hb2⟩
  rw [if_pos rfl]
  have st2 := Hst.out.old hb2
  have bel2 := st2.bel
  clear st
  have st2p0 := (bel2.cell (p := ⟨cb, 0, none⟩) lc).trans p0
  have st2p1 := (bel2.cell (p := ⟨cb, 1, none⟩) lc).trans p1
  have st2p2 := (bel2.cell (p := ⟨cb, 2, none⟩) lc).trans p2
  have st2e0 := (bel2.cell (p := ⟨3, 0, none⟩) le).trans e0
  have st2s0 := st2.rb.cell 0
  have st2f0 := st2.fb.cell 0
  simp only [List.getElem?_toArray, List.getElem?_cons_zero] at st2s0 st2f0
  have st2lc := Nat.lt_of_lt_of_le lc bel2.size
  have st2le := Nat.lt_of_lt_of_le le bel2.size
  have st2lr := st2.rb.lt
  have st2lf := st2.fb.lt
  obtain ⟨r0, r1, r2, r3, r4⟩ := st2.res.five
  have g0 := st2.res.free 0
  have g1 := st2.res.free 1
  have g2 := st2.res.free 2
  have g3 := st2.res.free 3
  have g4 := st2.res.free 4
  have lq := st2.res.lt
  have Hst2 := Lib.hid st2
  clear st2 bel2 hb2
  clear p0W p1W p2W e0W s0W f0W lcW laW leW lrW lfW q0W
  go_wp2_with fail
  refine (is_nil a W2).mono ?_
  rintro e W3 ⟨rfl, rfl⟩
  go_wp2_with fail
  refine (fixup_any W3 r cb 12 1 1 st2s0 st2p2).mono ?_
  rintro e W4 ⟨rfl, hb4⟩
  have st4 := Hst2.out.old hb4
  clear r0 r1 r2 r3 r4 g0 g1 g2 g3 g4 lq
  obtain ⟨r0, r1, r2, r3, r4⟩ := st4.res.five
  have g0 := st4.res.free 0
  have g1 := st4.res.free 1
  have g2 := st4.res.free 2
  have g3 := st4.res.free 3
  have g4 := st4.res.free 4
  have lq := st4.res.lt
  have Hst4 := Lib.hid st4
  clear st4 hb4
  go_wp2_with fail
  refine bodyPost_ret (v := .tuple #[fixV 12 1 1 false false, .nilIface]) ?_ rfl ⟨rfl, ?_⟩
  · rw [results_cell_tmp rfl]
    go_simp
  · have hge : w.heap.size ≤ r + 1 := by have := Hst4.out.at_; omega
    exact (((((Hst4.out.bel.setCell (p := ⟨r + 1, 0, none⟩) hge _).setCell (p := ⟨r + 1, 1, none⟩) hge _).setCell (p := ⟨r + 1, 2, none⟩) hge _).setCell (p := ⟨r + 1, 3, none⟩) hge _).setCell (p := ⟨r + 1, 4, none⟩) hge _)

end
end Go.Proofs.YtfilbgmbmlmdbaaGreatDoor

namespace Go.Proofs.YtfilbgmbmlmdbaaGreatDoor
open Go.RowKit Go.MapKept

set_option linter.unusedSimpArgs false in
set_option maxRecDepth 100000 in
set_option maxHeartbeats 4000000 in
theorem compatible_any (w : World) (n1 cap1 g1 t1 n2 cap2 g2 t2 : Nat) (xs1 xs2 : List Value) (D1 D2 : Nat → Prop) (f1 f2 : Nat → RowD) (b : Bool) (a : Addr)
    (ho1 : w.ownsRow 0 72 8 (.slice (some ⟨g1, 0, none⟩) n1 cap1) n1 xs1) (hn1 : n1 ≤ 1000000) (hf1 : ∀ i, i < n1 → FitsD w D1 xs1 n1 i (f1 i)) (ht1 : t1 < n1)
    (ho2 : w.ownsRow 0 72 8 (.slice (some ⟨g2, 0, none⟩) n2 cap2) n2 xs2) (hn2 : n2 ≤ 1000000) (hf2 : ∀ i, i < n2 → FitsD w D2 xs2 n2 i (f2 i)) (ht2 : t2 < n2)
    (hmat : ∀ W og1 pt1 ob1 og2 pt2 ob2, Below w.heap.size w W → Outs W n1 f1 og1 pt1 ob1 → Outs W n2 f2 og2 pt2 ob2 → MatC W (objAt pt1 ob1 t1) (objAt pt2 ob2 t2) b a) :
    Calls Tryz.prog 22 #[.slice (some ⟨g1, 0, none⟩) n1 cap1, .int .i64 ((t1 : Int) + 1), .slice (some ⟨g2, 0, none⟩) n2 cap2, .int .i64 ((t2 : Int) + 1), .int .i64 2] w
      fun e w' => e = .returned (.tuple #[.bool b, .bool true]) ∧ Below w.heap.size w w' := by
  have hts : (t1 : Int) ≤ 1000000 := by omega
  have hts2 : (t2 : Int) ≤ 1000000 := by omega
  have HC := Lib.hid hmat
  have HF1 := Lib.hid hf1
  have HF2 := Lib.hid hf2
  have HO1 := Lib.hid ho1
  have HO2 := Lib.hid ho2
  clear hmat hf1 hf2 ho1 ho2
  cases b with
  | true =>
    go_enter Tryz.func22, Tryz.ntmps22
    go_wp2_with fail
    refine (one_any w n1 cap1 g1 t1 xs1 D1 f1 HO1.out hn1 HF1.out ht1).mono ?_
    rintro e w1 ⟨og1, pt1, ob1, rfl, o1, hb1⟩
    have O1 := Lib.hid o1
    clear o1
    go_wp2_with fail
    refine (one_any w1 n2 cap2 g2 t2 xs2 D2 f2 (ownsRow_of HO2.out fun x _ hl => hb1.block x hl) hn2 (fun i hi => (HF2.out i hi).kept hb1) ht2).mono ?_
    rintro e w2 ⟨og2, pt2, ob2, rfl, o2, hb2⟩
    have O2 := Lib.hid o2
    clear o2
    have HB12 : Hid (Below w.heap.size w w2) := Lib.hid (hb1.trans (hb2.mono hb1.size))
    have HM := Lib.hid (HC.out w2 og1 pt1 ob1 og2 pt2 ob2 HB12.out (O1.out.ck (CellsKept.below hb2)) O2.out)
    clear hb1 hb2
    go_wp2_with fail
    refine (zzMatch_any HM.out).mono ?_
    rintro e w3 ⟨rfl, hb3⟩
    have HB3 : Hid (Below w.heap.size w w3) := Lib.hid (HB12.out.trans (hb3.mono HB12.out.size))
    clear hb3
    rw [if_pos rfl]
    go_wp2_with fail
    go_ret2
    exact ⟨rfl, HB3.out⟩
  | false =>
    go_enter Tryz.func22, Tryz.ntmps22
    go_wp2_with fail
    refine (one_any w n1 cap1 g1 t1 xs1 D1 f1 HO1.out hn1 HF1.out ht1).mono ?_
    rintro e w1 ⟨og1, pt1, ob1, rfl, o1, hb1⟩
    have O1 := Lib.hid o1
    clear o1
    go_wp2_with fail
    refine (one_any w1 n2 cap2 g2 t2 xs2 D2 f2 (ownsRow_of HO2.out fun x _ hl => hb1.block x hl) hn2 (fun i hi => (HF2.out i hi).kept hb1) ht2).mono ?_
    rintro e w2 ⟨og2, pt2, ob2, rfl, o2, hb2⟩
    have O2 := Lib.hid o2
    clear o2
    have HB12 : Hid (Below w.heap.size w w2) := Lib.hid (hb1.trans (hb2.mono hb1.size))
    have HM := Lib.hid (HC.out w2 og1 pt1 ob1 og2 pt2 ob2 HB12.out (O1.out.ck (CellsKept.below hb2)) O2.out)
    clear hb1 hb2
    go_wp2_with fail
    refine (zzMatch_any HM.out).mono ?_
    rintro e w3 ⟨rfl, hb3⟩
    have HB3 : Hid (Below w.heap.size w w3) := Lib.hid (HB12.out.trans (hb3.mono HB12.out.size))
    clear hb3
    rw [if_neg Bool.false_ne_true]
    go_wp2_with fail
    go_ret2
    exact ⟨rfl, HB3.out⟩
end Go.Proofs.YtfilbgmbmlmdbaaGreatDoor

namespace Go.Proofs.YtfilbgmbmlmdbaaGreatDoor
open Go.RowKit

theorem FNms.mono {ns : ByteArray} {x q : Nat} {fn : Nat → ByteArray} {fx : Nat → Nat} (h : ∀ i, i < q → fn i = ns.extract (fx i) (fx i + 1) ∧ fx i + 1 ≤ fx (i + 1)) (hq : fx q ≤ x) : (∀ i j, i < j → j < q → fx i < fx j) ∧ ∀ i, i < q → fx i + 1 ≤ x := by
  have mono : ∀ d i, i + d < q → fx i + 1 ≤ fx (i + d + 1) := by
    intro d
    induction d with
    | zero => intro i hi; exact (h i hi).2
    | succ d ih => intro i hi; have := ih i (by omega); have := (h (i + d + 1) (by omega)).2; rw [show i + (d + 1) + 1 = i + d + 1 + 1 by omega]; omega
  refine ⟨fun i j hij hj => ?_, fun i hi => ?_⟩
  · have := mono (j - i - 1) i (by omega)
    rw [show i + (j - i - 1) + 1 = j by omega] at this
    omega
  · have := mono (q - 1 - i) i (by omega)
    rw [show i + (q - 1 - i) + 1 = q by omega] at this
    omega
theorem FNms.one {ns : ByteArray} {x q : Nat} {fn : Nat → ByteArray} (h : FNms ns x q fn) (hx : x ≤ ns.size) : ∀ i, i < q → (fn i).size = 1 := by
  obtain ⟨fx, h, hq⟩ := h
  intro i hi
  rw [(h i hi).1]
  exact extract_one _ _ (by have := (FNms.mono h hq).2 i hi; omega)
theorem Nms.fnms {A : Prop} {ns : ByteArray} {nx k : Nat} {pn : Nat → ByteArray} {py : Nat → Ty} (h : Nms A ns nx k pn py) (hA : ¬ A) : FNms ns nx k pn := by
  obtain ⟨px, hpx, e⟩ := h
  refine ⟨px, fun i hi => ?_, Nat.le_of_eq e⟩
  rcases hpx i hi with h1 | ⟨h1, _⟩
  · exact h1
  · exact absurd h1 hA
theorem letters_xyz : Letters ⟨#[120, 121, 122]⟩ := by
  intro x y hxy hy
  have hy3 : y < 3 := hy
  rcases (by omega : (x = 0 ∧ y = 1) ∨ (x = 0 ∧ y = 2) ∨ (x = 1 ∧ y = 2)) with ⟨rfl, rfl⟩ | ⟨rfl, rfl⟩ | ⟨rfl, rfl⟩ <;> decide
def allNe (ns : ByteArray) (n : Nat) : Bool := (List.range n).all fun y => (List.range y).all fun x => !(ns.extract x (x + 1) == ns.extract y (y + 1))
theorem letters_of {ns : ByteArray} (h : allNe ns ns.size = true) : Letters ns := by
  intro x y hxy hy e
  simp only [allNe, List.all_eq_true, List.mem_range] at h
  have := h y hy x hxy
  rw [e, (MapKept.bytes_beq _ _).2 rfl] at this
  cases this
theorem letters_aj : Letters ⟨#[97, 98, 99, 100, 101, 102, 103, 104, 105, 106]⟩ := letters_of (by decide +kernel)
/-- Each part's name is nothing, or no other part has it. -/
def Apart (n : Nat) (pn : Nat → ByteArray) : Prop := ∀ i j, i < j → j < n → pn i = ⟨#[]⟩ ∨ pn i ≠ pn j
theorem Nms.apart {A : Prop} {ns : ByteArray} {nx k : Nat} {pn : Nat → ByteArray} {py : Nat → Ty} (h : Nms A ns nx k pn py) (hx : nx ≤ ns.size) (hl : Letters ns) : Apart k pn := by
  obtain ⟨px, hpx, e⟩ := h
  have step : ∀ i, i < k → px i + 1 ≤ px (i + 1) := fun i hi => by
    rcases hpx i hi with ⟨_, h⟩ | ⟨_, _, _, h⟩ <;> omega
  have hm := FNms.mono (ns := ns) (x := ns.size) (q := k) (fn := fun i => ns.extract (px i) (px i + 1)) (fx := px) (fun i hi => ⟨rfl, step i hi⟩) (by omega)
  intro i j hij hj
  rcases hpx i (by omega) with ⟨h1, _⟩ | ⟨_, h1, _⟩
  · refine .inr ?_
    rcases hpx j hj with ⟨h2, _⟩ | ⟨_, h2, _⟩
    · rw [h1, h2]
      exact hl _ _ (hm.1 i j hij hj) (by have := hm.2 j hj; omega)
    · rw [h1, h2]
      intro e2
      have := extract_one ns (px i) (by have := hm.2 i (by omega); omega)
      rw [e2] at this
      cases this
  · exact .inl h1
theorem Leaf.okM {t : Ty} (h : Leaf t) : OkM t := by
  cases h with
  | int h => exact .int h
  | ptr h => exact .ptr h
  | enm h => exact .enm h
  | arr h h1 h6 => exact .arr h (by omega)
  | named h _ => exact .named h
  | cst h => exact .cst h
theorem FN.okM {t : Ty} (h : FN t) : OkM t := by
  rcases h with h | ⟨sz, n, pn, py, pa, pb, rfl, hn, _, hp, nx, hnx, hnms⟩
  · exact h.okM
  · have hfn := hnms.fnms (by decide)
    refine .comp (by decide) (by omega) (fun i hi => hfn.one hnx i hi) (hfn.distinct hnx letters_xyz) (fun i hi => ?_)
    rcases (hp i hi).1 with ⟨_, hy, _⟩ | ⟨h0, _⟩
    · exact hy.okM
    · have := hfn.one hnx i hi; omega
/-- A struct to compare. -/
def CmpT (t : Ty) : Prop := ∃ sz n pn py pa pb, t = .comp false ⟨#[115]⟩ sz n pn py pa pb ∧ sz ≤ 200000 ∧ n ≤ 40 ∧ (∀ i, i < n → PartOk FN 200 (pn i) (py i) (pa i) (pb i) ∧ pa i ≤ 200000) ∧ Apart n pn
theorem CmpT.good {t : Ty} (h : CmpT t) : Good t ∧ t.cnt ≤ 12000 := by
  obtain ⟨sz, n, pn, py, pa, pb, rfl, hsz, hn, hp, hd⟩ := h
  have hg := comp_good (un := false) (nm := ⟨#[115]⟩) (sz := sz) (c := 141) (N := 40) (A := 200000) (F := FN) (fun t ht => FT.good ht.ft) (by omega) (by omega) hn (by omega) (by omega) hp
  exact ⟨hg.1, Nat.le_trans hg.2 (by omega)⟩
theorem cmp_okM {sz n : Nat} {pn : Nat → ByteArray} {py : Nat → Ty} {pa pb : Nat → Nat} (hn : n ≤ 40) (hp : ∀ i, i < n → PartOk FN 200 (pn i) (py i) (pa i) (pb i) ∧ pa i ≤ 200000) (hd : Apart n pn) (hall : ∀ i, i < n → (pn i).size ≠ 0) : OkM (.comp false ⟨#[115]⟩ sz n pn py pa pb) := by
  have hp' : ∀ i, i < n → (pn i).size = 1 ∧ FN (py i) := fun i hi => by
    rcases (hp i hi).1 with ⟨h1, hy, _⟩ | ⟨h0, _⟩
    · exact ⟨h1, hy⟩
    · exact absurd h0 (hall i hi)
  refine .comp (by decide) (by omega) (fun i hi => (hp' i hi).1) (fun i j hij hj => ?_) (fun i hi => (hp' i hi).2.okM)
  rcases hd i j hij hj with h | h
  · exact absurd (by rw [h]; rfl) (hall i (by omega))
  · exact h
theorem StrN.cmp {A : Prop} {mx : Nat} {ns : ByteArray} {t : Ty} (h : StrN A FN 200 mx ⟨#[115]⟩ ns t) (hmx : mx ≤ 20000) (hl : Letters ns) : CmpT t := by
  obtain ⟨sz, n, pn, py, pa, pb, rfl, hn, hsz, hp, nx, hnx, hnms⟩ := h
  exact ⟨sz, n, pn, py, pa, pb, rfl, by omega, by omega, fun i hi => ⟨(hp i hi).1, by have := (hp i hi).2; omega⟩, hnms.apart hnx hl⟩
theorem Nam.Turned.cmp {W w' : World} {e : Ending} (h : Nam.Turned W ⟨#[115]⟩ e w') : ∃ tb t, e = .returned (.pointer (some ⟨tb, 0, none⟩)) ∧ Rep w' Nowhere tb t ∧ CmpT t ∧ Below W.heap.size W w' := by
  obtain ⟨wq, w2, tb, A, c, v, xs, pn, py, pa, pb, pc, z, rfl, st, hc, hA, hb, rfl, rfl, hd⟩ := h
  have h2 := st.blk.set 2 (.int .i64 ((A + 63) / 64 * 8 : Nat))
  refine ⟨tb, _, rfl, st.whole h2 (fun b _ hne => Below.heap_setCell _ _ _ _ hne), ⟨_, _, _, _, _, _, rfl, by omega, hc, fun i hi => ⟨(st.ok i hi).1, by have := (st.ok i hi).2; omega⟩, hd⟩, (hb.trans (st.old.mono hb.size)).setCell (Nat.le_trans hb.size st.lo) _⟩
set_option linter.unusedSimpArgs false in
set_option maxRecDepth 100000 in
set_option maxHeartbeats 4000000 in
theorem plain_any {w : World} {D : Nat → Prop} {b : Nat} {t : Ty} (r : Rep w D b t) (h : CmpT t) : Calls Tryz.prog 20 #[.pointer (some ⟨b, 0, none⟩)] w fun e w' => ∃ B : Bool, e = .returned (.bool B) ∧ (B = true → OkM t) ∧ Below w.heap.size w w' := by
  obtain ⟨sz, n, pn, py, pa, pb, rfl, hsz, hn, hp, hd⟩ := h
  have HOK : Hid ((∀ i, i < n → (pn i).size ≠ 0) → OkM (.comp false ⟨#[115]⟩ sz n pn py pa pb)) := Lib.hid (cmp_okM hn hp hd)
  obtain ⟨pv, pxs, pc, hblk, hown, hrow, hrep⟩ := r.comp_inv
  obtain ⟨sa, scap, rfl⟩ := own_slice hown
  obtain ⟨_, _, _, _, _, c5⟩ := hblk.six
  have hlt := hblk.lt
  have HO := Lib.hid hown
  have HR := Lib.hid hrow
  clear hown hrow hrep hp hd hblk r
  go_enter Tryz.func20, Tryz.ntmps20
  go_wp2_with fail
  obtain ⟨wA, rfl⟩ : ∃ wA : World, wA = w := ⟨_, rfl⟩
  go_loopg [10] n (fun gk s10 wr => ∃ i : Nat, i ≤ n ∧ n - i ≤ gk ∧ s10 = .int .i64 (i : Int) ∧ Hid (Below wA.heap.size wA wr) ∧ Hid (∀ j, j < i → (pn j).size ≠ 0))
  case atStart => exact ⟨0, Nat.zero_le _, Nat.le_refl _, rfl, Lib.hid (Below.refl _ _), Lib.hid (fun j h => absurd h (Nat.not_lt_zero j))⟩
  case round =>
    obtain ⟨i, hi, hgk, rfl, HB, HA⟩ := hrel
    by_cases hlti : i < n
    · obtain ⟨g1', c1', e1, -⟩ := own_form HO.out (by omega)
      simp only [Value.slice.injEq] at e1
      obtain ⟨rfl, -, rfl⟩ := e1
      have H1w := CellsKept.own (CellsKept.below HB.out) HO.out
      obtain ⟨f0, f1, f2, f3, f4⟩ := row_cells H1w (HR.out i hlti)
      have lg := (H1w.lt g1' rfl).2
      clear H1w
      by_cases h0 : (pn i).size = 0
      · have x1 := name_nil h0
        clear h0
        go_wp2_with fail
        go_ret
        exact ⟨false, rfl, (fun e => by cases e), HB.out.alloc HB.out.size _⟩
      · have x1 := name_full2 h0
        have H0 := Lib.hid h0
        clear h0
        go_wp2_with fail
        go_roundg (n - (i + 1))
        case measure => omega
        case rel => exact ⟨i + 1, hlti, Nat.le_refl _, by go_num, Lib.hid (HB.out.alloc HB.out.size _), Lib.hid (fun j hj => (Nat.lt_succ_iff_lt_or_eq.1 hj).elim (HA.out j) (fun e => by rw [e]; exact H0.out))⟩
    · obtain rfl : i = n := by omega
      go_wp2_with fail
      go_ret
      exact ⟨true, rfl, fun _ => HOK.out HA.out, HB.out⟩
end Go.Proofs.YtfilbgmbmlmdbaaGreatDoor

namespace Go.Proofs.YtfilbgmbmlmdbaaGreatDoor
open Go.RowKit Go.MapKept

theorem U32s.prefix8 {w : World} {a : Option Addr} {n cap : Nat} (h : U32s w (.slice a n cap) n) (k c : Nat) (hk : k ≤ n) : U32s w (.slice a k c) k := by
  obtain ⟨a', cap', e, h⟩ := h
  simp only [Value.slice.injEq, true_and] at e
  obtain ⟨rfl, -⟩ := e
  refine ⟨a, c, rfl, ?_⟩
  rcases h with h | ⟨b, off, rfl, hb, hc⟩
  · exact .inl (by omega)
  · exact .inr ⟨b, off, rfl, hb, fun i hi => hc i (by omega)⟩
/-- Some parts of a struct, so far. -/
structure SelSt (W : World) (tb sz : Nat) (pn : Nat → ByteArray) (pc pa pb : Nat → Nat) (i k : Nat) (v : Value) (xs : List Value) (sel : Nat → Nat) (w : World) : Prop where
  blk : Blk w tb #[.int .i64 4, .string ⟨#[115]⟩, .int .i64 (sz : Nat), .bool false, .pointer none, v] 38
  own : w.ownsRow (tb + 1) 56 5 v k xs
  row : ∀ j, j < k → PRow xs j (pn (sel j)) (.pointer (some ⟨pc (sel j), 0, none⟩)) (pa (sel j)) (pb (sel j)) 0
  lt : ∀ j, j < k → sel j < i
  inc : ∀ j j', j < j' → j' < k → sel j < sel j'
  le : k ≤ i
  old : Below W.heap.size W w
  lo : W.heap.size ≤ tb
theorem SelSt.move {W w w' : World} {tb sz : Nat} {pn : Nat → ByteArray} {pc pa pb : Nat → Nat} {i k : Nat} {v : Value} {xs : List Value} {sel : Nat → Nat} (st : SelSt W tb sz pn pc pa pb i k v xs sel w) (hb : Below w.heap.size w w') : SelSt W tb sz pn pc pa pb i k v xs sel w' :=
  ⟨st.blk.old hb, ownsRow_of st.own (fun g _ hl => hb.block g hl), st.row, st.lt, st.inc, st.le, st.old.trans (hb.mono st.old.size), st.lo⟩
theorem SelSt.skip {W w w' : World} {tb sz : Nat} {pn : Nat → ByteArray} {pc pa pb : Nat → Nat} {i k : Nat} {v : Value} {xs : List Value} {sel : Nat → Nat} (st : SelSt W tb sz pn pc pa pb i k v xs sel w) (hb : Below w.heap.size w w') : SelSt W tb sz pn pc pa pb (i + 1) k v xs sel w' :=
  ⟨st.blk.old hb, ownsRow_of st.own (fun g _ hl => hb.block g hl), st.row, fun j hj => Nat.lt_succ_of_lt (st.lt j hj), st.inc, Nat.le_succ_of_le st.le, st.old.trans (hb.mono st.old.size), st.lo⟩
theorem SelSt.step {W w w4 : World} {tb sz : Nat} {pn : Nat → ByteArray} {pc pa pb : Nat → Nat} {i k : Nat} {v : Value} {xs : List Value} {sel : Nat → Nat} {o : Obj} {g cap : Nat} (st : SelSt W tb sz pn pc pa pb i k v xs sel w)
    (ha : Appended (w.alloc o).drew (tb + 1) 56 5 v k 1 xs [.string (pn i), .pointer (some ⟨pc i, 0, none⟩), .int .i64 (pa i : Nat), .int .i64 (pb i : Nat), .int .i64 0] g cap w4) :
    SelSt W tb sz pn pc pa pb (i + 1) (k + 1) (.slice (some ⟨g, 0, none⟩) (k + 1) cap) (xs ++ [.string (pn i), .pointer (some ⟨pc i, 0, none⟩), .int .i64 (pa i : Nat), .int .i64 (pb i : Nat), .int .i64 0]) (upd sel k i) (w4.setCell ⟨tb, 5, none⟩ (.slice (some ⟨g, 0, none⟩) (k + 1) cap)) := by
  have hg : tb + 1 ≤ g := (ha.1.lt g rfl).1
  have hl := st.own.1
  have ow : (w.alloc o).drew.ownsRow (tb + 1) 56 5 v k xs := st.own.alloc o
  have hT : Blk (w4.setCell ⟨tb, 5, none⟩ (.slice (some ⟨g, 0, none⟩) (k + 1) cap)) tb _ 38 := (Blk.app (b := tb) (st.blk.alloc o).drew ha ow (Nat.lt_succ_self _)).set 5 (.slice (some ⟨g, 0, none⟩) (k + 1) cap)
  refine ⟨hT, ownsRow_setCell ha.1 (fun x => by simp [Value.ownBlock] at x; omega) _, ?_, ?_, ?_, by have := st.le; omega, ?_, st.lo⟩
  · intro j hj
    by_cases h : j < k
    · rw [upd_other _ _ h]; exact (st.row j h).left hl h
    · obtain rfl : j = k := by omega
      rw [upd_same]; exact PRow.last _ _ _ _ _ hl
  · intro j hj
    by_cases h : j < k
    · rw [upd_other _ _ h]; exact Nat.lt_succ_of_lt (st.lt j h)
    · obtain rfl : j = k := by omega
      rw [upd_same]; exact Nat.lt_succ_self _
  · intro j j' hjj hj'
    by_cases h : j' < k
    · rw [upd_other _ _ h, upd_other _ _ (show j < k by omega)]; exact st.inc j j' hjj h
    · obtain rfl : j' = k := by omega
      rw [upd_same, upd_other _ _ hjj]; exact st.lt j hjj
  · have hs := st.old.size
    exact (ha.below ow ((st.old.alloc hs _).drew) (by show _ ≤ (w.alloc o).heap.size; simp; omega) (by have := st.lo; omega)).setCell st.lo _
theorem SelSt.done {W w : World} {tb sz n : Nat} {pn : Nat → ByteArray} {py : Nat → Ty} {pc pa pb : Nat → Nat} {k : Nat} {v : Value} {xs : List Value} {sel : Nat → Nat} (st : SelSt W tb sz pn pc pa pb n k v xs sel w) (hr : ∀ i, i < n → Rep W Nowhere (pc i) (py i))
    (hsz : sz ≤ 200000) (hn : n ≤ 40) (hp : ∀ i, i < n → PartOk FN 200 (pn i) (py i) (pa i) (pb i) ∧ pa i ≤ 200000) (hd : Apart n pn) : ∃ t, Rep w Nowhere tb t ∧ CmpT t := by
  refine ⟨.comp false ⟨#[115]⟩ sz k (fun j => pn (sel j)) (fun j => py (sel j)) (fun j => pa (sel j)) (fun j => pb (sel j)), ?_, sz, k, _, _, _, _, rfl, hsz, by have := st.le; omega, fun j hj => hp _ (st.lt j hj), fun j j' hjj hj' => hd _ _ (st.inc j j' hjj hj') (st.lt j' hj')⟩
  exact .comp (un := false) (v := v) (xs := xs) (pc := fun j => pc (sel j)) st.blk (fun h => h) (ownsRow_base st.own (Nat.zero_le _)) (fun _ _ h => h) st.row fun j hj => (hr _ (st.lt j hj)).old st.old

set_option linter.unusedSimpArgs false in
set_option maxRecDepth 100000 in
set_option maxHeartbeats 8000000 in
theorem FnMatches_of (put_any : ∀ t, PutC t) (w : World) (ln mn lcap : Nat) (la : Option Addr) (mv : Value) (more : Bool) (av : Nat) (hl : U32s w (.slice la ln lcap) ln) (hm : U32s w mv mn) (hlc : ln ≤ lcap)
    {a : Addr} (hev : w.cell? ⟨3, 0, none⟩ = some (.iface 228 (.pointer (some a)))) :
    Calls Tryz.prog 6 #[.slice la ln lcap, mv, .bool more, .int .u8 av] w fun e w' => e = .returned (.bool true) ∧ Below w.heap.size w w' := by
  have le := World.block_lt_of_cell? w _ hev
  simp only at le
  have Hm := Lib.hid hm
  have Hl := Lib.hid hl
  clear hl
  obtain ⟨ma, mcap, rfl, -⟩ := hm
  by_cases hbig : 2147483647 < ln ∨ 2147483647 < mn ∨ 100 < ln ∨ 100 < mn
  · by_cases b1 : (2147483647 : Int) < ln
    · go_enter Tryz.func6, Tryz.ntmps6
      go_wp2_with fail
      go_ret
      exact ⟨rfl, Below.refl _ _⟩
    · by_cases b2 : (2147483647 : Int) < mn
      · go_enter Tryz.func6, Tryz.ntmps6
        go_wp2_with fail
        go_ret
        exact ⟨rfl, Below.refl _ _⟩
      · by_cases b3 : (100 : Int) < ln
        · go_enter Tryz.func6, Tryz.ntmps6
          go_wp2_with fail
          go_ret
          exact ⟨rfl, Below.refl _ _⟩
        · have b4 : (100 : Int) < mn := by omega
          go_enter Tryz.func6, Tryz.ntmps6
          go_wp2_with fail
          go_ret
          exact ⟨rfl, Below.refl _ _⟩
  · have h1 : ¬ (2147483647 : Int) < ln := by omega
    have h2 : ¬ (2147483647 : Int) < mn := by omega
    have h3 : ¬ (100 : Int) < ln := by omega
    have h4 : ¬ (100 : Int) < mn := by omega
    obtain ⟨k, hmin, hk8, hkn⟩ : ∃ k : Nat, (if (8 : Int) < (ln : Int) then (8 : Int) else ln) = (k : Int) ∧ k ≤ 8 ∧ k ≤ ln := by
      by_cases h : (8 : Int) < (ln : Int)
      · exact ⟨8, by rw [if_pos h]; rfl, by omega, by omega⟩
      · exact ⟨ln, by rw [if_neg h], by omega, Nat.le_refl _⟩
    have hb1 : (0 : Int) ≤ k := by omega
    have hb2 : (k : Int) ≤ lcap := by omega
    go_enter Tryz.func6, Tryz.ntmps6
    go_wp2_with fail
    refine (structN_one ⟨#[115]⟩ ⟨#[97, 98, 99, 100, 101, 102, 103, 104, 105, 106]⟩ (by decide) k hk8 _ w (Hl.out.prefix8 k lcap hkn)).mono ?_
    rintro e w1 ⟨ab, ta, rfl, ra, hta, hb1'⟩
    go_wp2_with fail
    refine (Nam.turnedOf_any ab ⟨#[115]⟩ _ ta mn (.slice ma mn mcap) w1 (ra.weaken fun _ _ h => h.elim) hta letters_aj (typeN_one structN_zero) (by omega) (Hm.out.old hb1')).mono ?_
    intro e w2 htu
    obtain ⟨tb, tt, rfl, rt, htt, hb2'⟩ := htu.cmp
    have htc := hta.cmp (by omega) letters_aj
    have rc : Rep w2 Nowhere ab ta := (ra.old hb2').weaken fun _ _ h => h.elim
    have RT' := Lib.hid rt
    have HTT := Lib.hid htt
    have RC := Lib.hid rc
    have HTC := Lib.hid htc
    have HB2 := Lib.hid (hb1'.trans (hb2'.mono hb1'.size))
    clear rt htt rc htc hta htu ra hb1' hb2'
    go_upto_if 51 with fail
    go_cut [9] (fun s9 wx => Hid (∃ cb tc, s9 = .pointer (some ⟨cb, 0, none⟩) ∧ Rep wx Nowhere cb tc ∧ CmpT tc ∧ Below w2.heap.size w2 wx))
    case first =>
      cases more with
      | false =>
        go_wp2_with fail
        go_meet
        exact Lib.hid ⟨_, _, rfl, RC.out, HTC.out, Below.refl _ _⟩
      | true =>
        obtain ⟨sz, n, pn, py, pa, pb, rfl, hsz, hn, hp, hd⟩ := HTT.out
        obtain ⟨pv, pxs, pc, hblk, hown, hrow, hrep⟩ := RT'.out.comp_inv
        obtain ⟨sa, scap, rfl⟩ := own_slice hown
        obtain ⟨_, _, c2, _, _, c5⟩ := hblk.six
        have hlt := hblk.lt
        have HO := Lib.hid hown
        have HR := Lib.hid hrow
        have HREP := Lib.hid hrep
        have HP := Lib.hid hp
        have HD := Lib.hid hd
        clear hown hrow hrep hp hd hblk
        go_wp2_with fail
        go_loopg [64] n (fun gk s64 wr => ∃ i j v xs sel, Hid (SelSt w2 w2.heap.size sz pn pc pa pb i j v xs sel wr) ∧ i ≤ n ∧ n - i ≤ gk ∧ s64 = .int .i64 (i : Int))
        case atStart => exact ⟨0, 0, _, [], fun _ => 0, Lib.hid ⟨Blk.new _ _ _, World.ownsRow_nil _ _ _ _, fun j h => by omega, fun j h => by omega, fun j j' _ h => by omega, Nat.le_refl _, (Below.refl _ _).alloc (Nat.le_refl _) _, Nat.le_refl _⟩, Nat.zero_le _, Nat.le_refl _, rfl⟩
        case round =>
          obtain ⟨i, j, v, xs, sel, ST, hi, hgk, rfl⟩ := hrel
          by_cases hlti : i < n
          · obtain ⟨g1', c1', e1, -⟩ := own_form HO.out (by omega)
            simp only [Value.slice.injEq] at e1
            obtain ⟨rfl, -, rfl⟩ := e1
            have H1w := CellsKept.own (CellsKept.below ST.out.old) HO.out
            obtain ⟨f0, f1, f2, f3, f4⟩ := row_cells H1w (HR.out i hlti)
            have lg := (H1w.lt g1' rfl).2
            clear H1w
            go_upto_if 74 with fail
            obtain ⟨B, hB⟩ : ∃ B, (bits BinOp.and IntKind.u8 ((av : Int) / 2 ^ (i % 8)) 1 == 0) = B := ⟨_, rfl⟩
            rw [hB]
            clear hB
            cases B with
            | false =>
              go_wp2_with fail
              go_roundg (n - (i + 1))
              case measure => omega
              case rel => exact ⟨i + 1, j, v, xs, sel, Lib.hid (ST.out.skip ((Below.refl _ _).alloc (Nat.le_refl _) _)), hlti, Nat.le_refl _, by go_num⟩
            | true =>
              obtain ⟨wc, hwc⟩ : ∃ wc, wc = wr.alloc (.cells #[.string (pn i), .pointer (some ⟨pc i, 0, none⟩), .int .i64 (pa i : Nat), .int .i64 (pb i : Nat), .int .i64 0] 56) := ⟨_, rfl⟩
              rw [← hwc]
              have hpb : Blk wc wr.heap.size #[.string (pn i), .pointer (some ⟨pc i, 0, none⟩), .int .i64 (pa i : Nat), .int .i64 (pb i : Nat), .int .i64 0] 56 := by rw [hwc]; exact Blk.new _ _ _
              have SC := Lib.hid (ST.out.move (w' := wc) (by rw [hwc]; exact (Below.refl _ _).alloc (Nat.le_refl _) _))
              obtain ⟨p0, p1, p2, p3, p4⟩ := hpb.five
              obtain ⟨-, -, -, -, -, q5⟩ := SC.out.blk.six
              have g5 := SC.out.blk.free 5
              have pown := SC.out.own
              have hk63 : j + 1 ≤ maxLen := by have := SC.out.le; unfold maxLen; omega
              have hbase : w2.heap.size + 1 ≤ wc.heap.size := SC.out.blk.lt
              have hlt3 : w2.heap.size < wc.heap.size := SC.out.blk.lt
              have hlt4 : wr.heap.size < wc.heap.size := hpb.lt
              have hjn : (j : Int) + 1 ≤ 1000 := by have := SC.out.le; omega
              clear f0 f1 f2 f3 f4 lg hwc
              go_upto_region 14 with fail
              apply wp_meet (fun g cap' w4 w' => Appended (wc.alloc (.cells #[.string (pn i), .pointer (some ⟨pc i, 0, none⟩), .int .i64 (pa i : Nat), .int .i64 (pb i : Nat), .int .i64 0] 56)).drew (w2.heap.size + 1) 56 5 v j 1 xs [.string (pn i), .pointer (some ⟨pc i, 0, none⟩), .int .i64 (pa i : Nat), .int .i64 (pb i : Nat), .int .i64 0] g cap' w4 ∧ w' = w4.setCell ⟨w2.heap.size, 5, none⟩ (.slice (some ⟨g, 0, none⟩) (j + 1) cap'))
              · go_region_law ((refine step_app elemParts (.tmp 79) (.tmp 81) rfl rfl (w2.heap.size + 1) v j xs rfl (by first | exact pown | exact pown.alloc _) wc.heap.size 1 1 #[.string (pn i), .pointer (some ⟨pc i, 0, none⟩), .int .i64 (pa i : Nat), .int .i64 (pb i : Nat), .int .i64 0] rfl (by first | exact Blk.new _ _ _ | exact (Blk.new _ _ _).drew) rfl rfl (by decide) ?_ (by omega) hk63 (by first | exact hbase | (simp; omega)); intro g cap' w4 ha; have d5 := (Blk.app (b := w2.heap.size) (by first | exact SC.out.blk.alloc _ | exact (SC.out.blk.alloc _).drew) ha (by first | exact pown | exact pown.alloc _) (Nat.lt_succ_self _)).cell 5; have e5 := (Blk.app (b := w2.heap.size) (by first | exact SC.out.blk.alloc _ | exact (SC.out.blk.alloc _).drew) ha (by first | exact pown | exact pown.alloc _) (Nat.lt_succ_self _)).free 5; simp only [List.getElem?_toArray, List.getElem?_cons_succ, List.getElem?_cons_zero] at d5))
                all_goals exact ⟨g, cap', w4, ⟨ha, rfl⟩, rfl⟩
              · rintro g cap' w4 w' ⟨ha, rfl⟩
                clear p0 p1 p2 p3 p4 q5 g5 hbase hlt3 hlt4 pown hk63 hjn
                go_wp2_with fail
                go_roundg (n - (i + 1))
                case measure => omega
                case rel => exact ⟨i + 1, j + 1, _, _, _, Lib.hid (SC.out.step ha), hlti, Nat.le_refl _, by go_num⟩
          · obtain rfl : i = n := by omega
            go_wp2_with fail
            go_meet
            obtain ⟨tc, hr, hc⟩ := ST.out.done HREP.out hsz hn HP.out HD.out
            exact Lib.hid ⟨_, _, rfl, hr, hc, ST.out.old⟩
    case rest =>
      obtain ⟨cb, tc, rfl, rc, htc, hbc⟩ := hcut.out
      obtain ⟨w3, rfl⟩ : ∃ w3 : World, w3 = wc := ⟨_, rfl⟩
      clear RC HTC hcut
      have RC := Lib.hid rc
      have HTC := Lib.hid htc
      have RT3 := Lib.hid (RT'.out.old hbc)
      have HB3 := Lib.hid (HB2.out.trans (hbc.mono HB2.out.size))
      clear rc htc hbc RT' HB2
      go_wp2_with fail
      refine (plain_any RC.out HTC.out).mono ?_
      rintro e w4 ⟨B1, rfl, ok1, hb4⟩
      cases B1 with
      | false =>
        go_wp2_with fail
        go_ret
        exact ⟨rfl, HB3.out.trans (hb4.mono HB3.out.size)⟩
      | true =>
      have OK1 := Lib.hid (ok1 rfl)
      have RC4 := Lib.hid (RC.out.old hb4)
      have RT4 := Lib.hid (RT3.out.old hb4)
      have HB4 := Lib.hid (HB3.out.trans (hb4.mono HB3.out.size))
      clear ok1 hb4
      go_wp2_with fail
      refine (plain_any RT4.out HTT.out).mono ?_
      rintro e w5 ⟨B2, rfl, ok2, hb5⟩
      cases B2 with
      | false =>
        go_wp2_with fail
        go_ret
        exact ⟨rfl, HB4.out.trans (hb5.mono HB4.out.size)⟩
      | true =>
      have OK2 := Lib.hid (ok2 rfl)
      have RC5 := Lib.hid (RC4.out.old hb5)
      have RT5 := Lib.hid (RT4.out.old hb5)
      have HB5 := Lib.hid (HB4.out.trans (hb5.mono HB4.out.size))
      clear ok2 hb5
      go_wp2_with fail
      refine (listedT_of put_any cb tc w5 RC5.out HTC.out.good.1 (by have := HTC.out.good.2; omega)).mono ?_
      rintro e w6 ⟨v1, n1, i1, xs1, D1, f1, rfl, rows1, hf1, rt1, hi1, hn1, hb6⟩
      have e1 : ((i1 + 1 : Nat) : Int) = (i1 : Int) + 1 := by omega
      rw [e1]
      have RT6 := Lib.hid (RT5.out.old hb6)
      go_wp2_with fail
      refine (listedT_of put_any tb tt w6 RT6.out HTT.out.good.1 (by have := HTT.out.good.2; omega)).mono ?_
      rintro e w7 ⟨v2, n2, i2, xs2, D2, f2, rfl, rows2, hf2, rt2, hi2, hn2, hb7⟩
      have e2 : ((i2 + 1 : Nat) : Int) = (i2 : Int) + 1 := by omega
      rw [e2]
      obtain ⟨g1, cap1, rfl, hg1⟩ := own_form rows1.own (by omega)
      obtain ⟨g2, cap2, rfl, hg2⟩ := own_form rows2.own (by omega)
      go_wp2_with fail
      refine (matches_any tc.cnt (Nat.le_refl _) HTC.out.good.1 HTT.out.good.1 ((RC5.out.old hb6).old hb7) (RT6.out.old hb7)).mono ?_
      rintro e w8 ⟨rfl, hb8⟩
      have h68 : Below w6.heap.size w6 w8 := hb7.trans (hb8.mono hb7.size)
      have own1 := ownsRow_of rows1.own fun x _ hl => h68.block x hl
      have own2 := ownsRow_of rows2.own fun x _ hl => hb8.block x hl
      have fits1 : ∀ i, i < n1 → FitsD w8 D1 xs1 n1 i (f1 i) := fun i hi => (hf1 i hi).kept h68
      have fits2 : ∀ i, i < n2 → FitsD w8 D2 xs2 n2 i (f2 i) := fun i hi => (hf2 i hi).kept hb8
      have HB8 : Hid (Below w.heap.size w w8) := Lib.hid (HB5.out.trans ((hb6.trans (h68.mono hb6.size)).mono HB5.out.size))
      have hev8 := (HB8.out.cell (p := ⟨3, 0, none⟩) le).trans hev
      have le8 := Nat.lt_of_lt_of_le le HB8.out.size
      have HF1 := Lib.hid hf1
      have HF2 := Lib.hid hf2
      clear rows1 rows2 hf1 hf2 hb6 hb7 hb8 h68 RC RT3 RC4 RT4 RC5 RT5 RT6 hev le HB3 HB4 HB5
      obtain ⟨M, hM⟩ : ∃ M, tm tc tt = M := ⟨_, rfl⟩
      rw [hM]
      cases M with
      | true =>
        have hmat : ∀ W og1 pt1 ob1 og2 pt2 ob2, Below w8.heap.size w8 W → Outs W n1 f1 og1 pt1 ob1 → Outs W n2 f2 og2 pt2 ob2 → MatC W (objAt pt1 ob1 i1) (objAt pt2 ob2 i2) true a := by
          intro W og1 pt1 ob1 og2 pt2 ob2 hBW o1 o2
          have herr := (hBW.cell (p := ⟨3, 0, none⟩) le8).trans hev8
          have hm := match_any (T := ⟨n1, n2, f1, f2, og1, og2, pt1, pt2, ob1, ob2⟩) (refs_of HF1.out) (refs_of HF2.out) OK1.out OK2.out rt1 rt2 hi1 hi2 ⟨o1, o2, peels_of HF1.out, peels_of HF2.out⟩ herr
          rw [hM] at hm
          exact hm
        have HC := Lib.hid (compatible_any w8 n1 cap1 g1 i1 n2 cap2 g2 i2 xs1 xs2 D1 D2 f1 f2 true a own1 (by have := HTC.out.good.2; omega) fits1 hi1 own2 (by have := HTT.out.good.2; omega) fits2 hi2 hmat)
        clear hmat
        go_wp2_with fail
        refine HC.out.mono ?_
        rintro e w9 ⟨rfl, hb9⟩
        obtain ⟨wq, hwq⟩ : ∃ wq : World, wq = w9.alloc (.cells #[.int .i64 0] 3) := ⟨_, rfl⟩
        have h9q : Below w9.heap.size w9 wq := by rw [hwq]; exact (Below.refl _ _).alloc (Nat.le_refl _) _
        have habq : Blk wq w9.heap.size #[.int .i64 0] 3 := by rw [hwq]; exact Blk.new _ _ _
        have h8q : Below w8.heap.size w8 wq := hb9.trans (h9q.mono hb9.size)
        have hevq := (h8q.cell (p := ⟨3, 0, none⟩) le8).trans hev8
        have leq := Nat.lt_of_lt_of_le le8 h8q.size
        have own1q := ownsRow_of own1 fun x _ hl => h8q.block x hl
        have own2q := ownsRow_of own2 fun x _ hl => h8q.block x hl
        have fits1q : ∀ i, i < n1 → FitsD wq D1 xs1 n1 i (f1 i) := fun i hi => (fits1 i hi).kept h8q
        have fits2q : ∀ i, i < n2 → FitsD wq D2 xs2 n2 i (f2 i) := fun i hi => (fits2 i hi).kept h8q
        have hcalc : ∀ W og1 pt1 ob1 og2 pt2 ob2 ab' acap idn rs, Below wq.heap.size wq W → Outs W n1 f1 og1 pt1 ob1 → Outs W n2 f2 og2 pt2 ob2 → W.cell? ⟨ab', 0, none⟩ = some (.int .i64 0) →
            CalcC W (objAt pt1 ob1 i1) (.slice (some ⟨ab', 0, none⟩) 1 acap) 12 (.int .u32 idn) (objAt pt2 ob2 i2) rs 12 1 1 false false := by
          intro W og1 pt1 ob1 og2 pt2 ob2 ab' acap idn rs hBW o1 o2 hz W2 cb bo hB' hblk
          have hac := (hB'.cell (p := ⟨ab', 0, none⟩) (World.block_lt_of_cell? W _ hz)).trans hz
          have herr := (hB'.cell (p := ⟨3, 0, none⟩) (Nat.lt_of_lt_of_le leq hBW.size)).trans ((hBW.cell (p := ⟨3, 0, none⟩) leq).trans hevq)
          have hm := match_any (T := ⟨n1, n2, f1, f2, og1, og2, pt1, pt2, ob1, ob2⟩) (refs_of HF1.out) (refs_of HF2.out) OK1.out OK2.out rt1 rt2 hi1 hi2 ⟨o1.ck (CellsKept.below hB'), o2.ck (CellsKept.below hB'), peels_of HF1.out, peels_of HF2.out⟩ herr
          rw [hM] at hm
          exact calc12_yes ⟨hblk, hac, herr⟩ hm
        have HR := Lib.hid (relocated_any wq n1 cap1 g1 i1 n2 cap2 g2 i2 w9.heap.size xs1 xs2 D1 D2 f1 f2 0 12 _ _ _ _ _ false own1q (by have := HTC.out.good.2; omega) fits1q hi1 own2q (by have := HTT.out.good.2; omega) fits2q hi2 habq (by omega) (by omega) hcalc)
        rw [hwq] at HR
        have HBq : Hid (Below w.heap.size w wq) := Lib.hid (HB8.out.trans (h8q.mono HB8.out.size))
        clear hcalc own1q own2q fits1q fits2q habq hevq leq h8q h9q hb9 HC
        go_wp2_with fail
        refine HR.out.mono ?_
        rintro e w10 ⟨rfl, hb10⟩
        rw [← hwq] at hb10
        have HB10 := Lib.hid (HBq.out.trans (hb10.mono HBq.out.size))
        clear hb10 hwq
        go_wp2_with fail
        go_ret
        exact ⟨rfl, HB10.out⟩
      | false =>
        have hmat : ∀ W og1 pt1 ob1 og2 pt2 ob2, Below w8.heap.size w8 W → Outs W n1 f1 og1 pt1 ob1 → Outs W n2 f2 og2 pt2 ob2 → MatC W (objAt pt1 ob1 i1) (objAt pt2 ob2 i2) false a := by
          intro W og1 pt1 ob1 og2 pt2 ob2 hBW o1 o2
          have herr := (hBW.cell (p := ⟨3, 0, none⟩) le8).trans hev8
          have hm := match_any (T := ⟨n1, n2, f1, f2, og1, og2, pt1, pt2, ob1, ob2⟩) (refs_of HF1.out) (refs_of HF2.out) OK1.out OK2.out rt1 rt2 hi1 hi2 ⟨o1, o2, peels_of HF1.out, peels_of HF2.out⟩ herr
          rw [hM] at hm
          exact hm
        have HC := Lib.hid (compatible_any w8 n1 cap1 g1 i1 n2 cap2 g2 i2 xs1 xs2 D1 D2 f1 f2 false a own1 (by have := HTC.out.good.2; omega) fits1 hi1 own2 (by have := HTT.out.good.2; omega) fits2 hi2 hmat)
        clear hmat
        go_wp2_with fail
        refine HC.out.mono ?_
        rintro e w9 ⟨rfl, hb9⟩
        obtain ⟨wq, hwq⟩ : ∃ wq : World, wq = w9.alloc (.cells #[.int .i64 0] 3) := ⟨_, rfl⟩
        have h9q : Below w9.heap.size w9 wq := by rw [hwq]; exact (Below.refl _ _).alloc (Nat.le_refl _) _
        have habq : Blk wq w9.heap.size #[.int .i64 0] 3 := by rw [hwq]; exact Blk.new _ _ _
        have h8q : Below w8.heap.size w8 wq := hb9.trans (h9q.mono hb9.size)
        have hevq := (h8q.cell (p := ⟨3, 0, none⟩) le8).trans hev8
        have leq := Nat.lt_of_lt_of_le le8 h8q.size
        have own1q := ownsRow_of own1 fun x _ hl => h8q.block x hl
        have own2q := ownsRow_of own2 fun x _ hl => h8q.block x hl
        have fits1q : ∀ i, i < n1 → FitsD wq D1 xs1 n1 i (f1 i) := fun i hi => (fits1 i hi).kept h8q
        have fits2q : ∀ i, i < n2 → FitsD wq D2 xs2 n2 i (f2 i) := fun i hi => (fits2 i hi).kept h8q
        have hcalc : ∀ W og1 pt1 ob1 og2 pt2 ob2 ab' acap idn rs, Below wq.heap.size wq W → Outs W n1 f1 og1 pt1 ob1 → Outs W n2 f2 og2 pt2 ob2 → W.cell? ⟨ab', 0, none⟩ = some (.int .i64 0) →
            CalcC W (objAt pt1 ob1 i1) (.slice (some ⟨ab', 0, none⟩) 1 acap) 12 (.int .u32 idn) (objAt pt2 ob2 i2) rs 12 1 0 false false := by
          intro W og1 pt1 ob1 og2 pt2 ob2 ab' acap idn rs hBW o1 o2 hz W2 cb bo hB' hblk
          have hac := (hB'.cell (p := ⟨ab', 0, none⟩) (World.block_lt_of_cell? W _ hz)).trans hz
          have herr := (hB'.cell (p := ⟨3, 0, none⟩) (Nat.lt_of_lt_of_le leq hBW.size)).trans ((hBW.cell (p := ⟨3, 0, none⟩) leq).trans hevq)
          have hm := match_any (T := ⟨n1, n2, f1, f2, og1, og2, pt1, pt2, ob1, ob2⟩) (refs_of HF1.out) (refs_of HF2.out) OK1.out OK2.out rt1 rt2 hi1 hi2 ⟨o1.ck (CellsKept.below hB'), o2.ck (CellsKept.below hB'), peels_of HF1.out, peels_of HF2.out⟩ herr
          rw [hM] at hm
          exact calc12_no ⟨hblk, hac, herr⟩ hm
        have HR := Lib.hid (relocated_any wq n1 cap1 g1 i1 n2 cap2 g2 i2 w9.heap.size xs1 xs2 D1 D2 f1 f2 0 12 _ _ _ _ _ false own1q (by have := HTC.out.good.2; omega) fits1q hi1 own2q (by have := HTT.out.good.2; omega) fits2q hi2 habq (by omega) (by omega) hcalc)
        rw [hwq] at HR
        have HBq : Hid (Below w.heap.size w wq) := Lib.hid (HB8.out.trans (h8q.mono HB8.out.size))
        clear hcalc own1q own2q fits1q fits2q habq hevq leq h8q h9q hb9 HC
        go_wp2_with fail
        refine HR.out.mono ?_
        rintro e w10 ⟨rfl, hb10⟩
        rw [← hwq] at hb10
        have HB10 := Lib.hid (HBq.out.trans (hb10.mono HBq.out.size))
        clear hb10 hwq
        go_wp2_with fail
        go_ret
        exact ⟨rfl, HB10.out⟩
#print axioms FnMatches_of
end Go.Proofs.YtfilbgmbmlmdbaaGreatDoor
