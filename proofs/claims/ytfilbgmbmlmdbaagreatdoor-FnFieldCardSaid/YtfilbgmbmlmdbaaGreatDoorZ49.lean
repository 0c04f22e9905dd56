/- What the reference tells of a relocation of a field: the walk. Nothing is claimed here. -/
import Derived.Test.YtfilbgmbmlmdbaaGreatDoorZ48
import Derived.Test.YtfilbgmbmlmdbaaGreatDoorZ39
import Derived.Test.YtfilbgmbmlmdbaaGreatDoorZ45
import Derived.Test.YtfilbgmbmlmdbaaGreatDoorZ41
import Derived.Test.YtfilbgmbmlmdbaaGreatDoorZ42
import Derived.Deep.DeepCutAuto
import Derived.Deep.CutBlock
set_option linter.unusedSimpArgs false
set_option linter.unusedVariables false
set_option maxRecDepth 1000000
set_option maxHeartbeats 16000000
namespace Go.Proofs.YtfilbgmbmlmdbaaGreatDoor
open Go.RowKit Go.MapKept
def rfO (R : FS × Out) (k : Nat) : Int := match R.2 with
 | .wrong => 2
 | .poison => if k = 2 then 0 else 1
 | .found => 0
structure TwoF (w1 : World) (fa fb pa pb : Nat) (s : FS) (w : World) : Prop where
 ba : Blk w fa #[.pointer (some ⟨pa, 0, none⟩), .int .i64 (s.ao : Nat), .int .i64 (s.ab : Nat), .int .i64 (s.af : Nat)] 31
 bb : Blk w fb #[.pointer (some ⟨pb, 0, none⟩), .int .i64 (s.bo : Nat), .int .i64 (s.bb : Nat), .int .i64 (s.bf : Nat)] 31
 old : Below w1.heap.size w1 w
theorem TwoF.new (w1 : World) (pa pb : Nat) (s : FS) : TwoF w1 w1.heap.size (w1.heap.size + 1) pa pb s ((w1.alloc (.cells #[.pointer (some ⟨pa, 0, none⟩), .int .i64 (s.ao : Nat), .int .i64 (s.ab : Nat), .int .i64 (s.af : Nat)] 31)).alloc (.cells #[.pointer (some ⟨pb, 0, none⟩), .int .i64 (s.bo : Nat), .int .i64 (s.bb : Nat), .int .i64 (s.bf : Nat)] 31)) :=
 ⟨(Blk.new w1 _ _).alloc _, Blk.newAt _ _ _ (by simp), ((Below.refl _ _).alloc (Nat.le_refl _) _).alloc (by simp) _⟩
theorem relo_not {W : World} {b c g L cap n0 k : Nat} {t u : Ty} {p : List Nat} {R : FS × Out} {big : Bool} (r1 : Rep W Nowhere b t) (r2 : Rep W Nowhere c u) (ok1 : FOk t) (ok2 : FOk u) (hc1 : isC t = true) (hc2 : isC u = true) (hacc : Acc W g L (n0 :: p) 0) (hL : L ≤ 5) (hg : g < W.heap.size) (hcap : L ≤ cap) (hR : R = fieldGo p ⟨t, n0 * t.bytes, 0, 0, u, n0 * u.bytes, 0, 0⟩) (hk : k ≤ 5) (ho : R.2 ≠ .found) :
  Calls Tryz.prog 15 #[.pointer (some ⟨b, 0, none⟩), .slice (some ⟨g, 0, none⟩) L cap, .pointer (some ⟨c, 0, none⟩), .int .i64 (k : Nat), .bool big] W fun e w' => e = .returned (.tuple #[.int .u64 (fxA R k), .int .u64 (fxB R k big), .int .i64 (rfO R k)]) ∧ Below W.heap.size W w' := by
 have HF := Lib.hid (fieldOf_any r1 r2 ok1 ok2 hc1 hc2 hacc hL hg hcap)
 rw [← hR] at HF
 obtain ⟨s, o⟩ := R
 clear r1 r2 ok1 ok2 hc1 hc2 hacc hg hR
 cases o with
 | found => exact absurd rfl ho
 | wrong =>
  show Calls _ _ _ _ fun e w' => e = .returned (.tuple #[.int .u64 0, .int .u64 0, .int .i64 2]) ∧ Below W.heap.size W w'
  clear ho
  go_enter Tryz.func15, Tryz.ntmps15
  go_wp2_with fail
  refine HF.out.mono ?_
  rintro e w1 ⟨pa, pb, rfl, -, -, -, -, hb1⟩
  have HB := Lib.hid hb1
  unfold fldV
  simp only [Out.code]
  clear hb1 HF
  go_upto_region 2 with fail
  refine wp_world (fun w' => Hid (TwoF w1 w1.heap.size (w1.heap.size + 1) pa pb s w')) (Lib.hid (TwoF.new w1 pa pb s)) (fun w2 ST => ?_)
  go_wp2_with fail
  go_ret3
  exact ⟨rfl, HB.out.trans (ST.out.old.mono HB.out.size)⟩
 | poison =>
  by_cases h2 : k = 2
  ·subst h2
   show Calls _ _ _ _ fun e w' => e = .returned (.tuple #[.int .u64 1, .int .u64 0, .int .i64 0]) ∧ Below W.heap.size W w'
   clear ho
   go_enter Tryz.func15, Tryz.ntmps15
   go_wp2_with fail
   refine HF.out.mono ?_
   rintro e w1 ⟨pa, pb, rfl, -, -, -, -, hb1⟩
   have HB := Lib.hid hb1
   unfold fldV
   simp only [Out.code]
   clear hb1 HF
   go_upto_region 2 with fail
   refine wp_world (fun w' => Hid (TwoF w1 w1.heap.size (w1.heap.size + 1) pa pb s w')) (Lib.hid (TwoF.new w1 pa pb s)) (fun w2 ST => ?_)
   go_wp2_with fail
   go_ret3
   exact ⟨rfl, HB.out.trans (ST.out.old.mono HB.out.size)⟩
  ·have e1 : fxA (s, Out.poison) k = 0 := if_neg h2
   have e2 : rfO (s, Out.poison) k = 1 := if_neg h2
   rw [e1, e2]
   show Calls _ _ _ _ fun e w' => e = .returned (.tuple #[.int .u64 0, .int .u64 0, .int .i64 1]) ∧ Below W.heap.size W w'
   have h2i : ((k : Int) == 2) = false := by rw [beq_eq_false_iff_ne]; omega
   clear ho h2 e1 e2
   go_enter Tryz.func15, Tryz.ntmps15
   go_wp2_with fail
   refine HF.out.mono ?_
   rintro e w1 ⟨pa, pb, rfl, -, -, -, -, hb1⟩
   have HB := Lib.hid hb1
   unfold fldV
   simp only [Out.code]
   clear hb1 HF
   go_upto_region 2 with fail
   refine wp_world (fun w' => Hid (TwoF w1 w1.heap.size (w1.heap.size + 1) pa pb s w')) (Lib.hid (TwoF.new w1 pa pb s)) (fun w2 ST => ?_)
   go_wp2_with fail
   go_ret3
   exact ⟨rfl, HB.out.trans (ST.out.old.mono HB.out.size)⟩
theorem relo_0 {W : World} {b c g L cap n0 : Nat} {t u : Ty} {p : List Nat} {R : FS × Out} {big : Bool} (r1 : Rep W Nowhere b t) (r2 : Rep W Nowhere c u) (ok1 : FOk t) (ok2 : FOk u) (hc1 : isC t = true) (hc2 : isC u = true) (hacc : Acc W g L (n0 :: p) 0) (hL : L ≤ 5) (hg : g < W.heap.size) (hcap : L ≤ cap) (hR : R = fieldGo p ⟨t, n0 * t.bytes, 0, 0, u, n0 * u.bytes, 0, 0⟩) (ho : R.2 = .found) (hbd : R.1.ao ≤ 61000000 ∧ R.1.bo ≤ 61000000) :
  Calls Tryz.prog 15 #[.pointer (some ⟨b, 0, none⟩), .slice (some ⟨g, 0, none⟩) L cap, .pointer (some ⟨c, 0, none⟩), .int .i64 ((0 : Nat) : Int), .bool big] W fun e w' => e = .returned (.tuple #[.int .u64 (fxA R 0), .int .u64 (fxB R 0 big), .int .i64 (rfO R 0)]) ∧ Below W.heap.size W w' := by
 have HF := Lib.hid (fieldOf_any r1 r2 ok1 ok2 hc1 hc2 hacc hL hg hcap)
 rw [← hR] at HF
 obtain ⟨s, o⟩ := R
 obtain rfl : o = .found := ho
 have hbd : s.ao ≤ 61000000 ∧ s.bo ≤ 61000000 := hbd
 obtain ⟨hao, hbo⟩ := hbd
 clear r1 r2 ok1 ok2 hc1 hc2 hacc hg hR
 show Calls _ _ _ _ fun e w' => e = .returned (.tuple #[.int .u64 ((s.ao : Nat)), .int .u64 ((s.bo : Nat)), .int .i64 0]) ∧ Below W.heap.size W w'
 go_enter Tryz.func15, Tryz.ntmps15
 go_wp2_with fail
 refine HF.out.mono ?_
 rintro e w1 ⟨pa, pb, rfl, ra, rb, oka, okb, hb1⟩
 have HB := Lib.hid hb1
 have RA := Lib.hid (ra.old hb1)
 have RB := Lib.hid (rb.old hb1)
 have OA := Lib.hid oka
 have OB := Lib.hid okb
 unfold fldV
 simp only [Out.code]
 clear hb1 HF ra rb oka okb
 go_upto_region 2 with fail
 refine wp_world (fun w' => Hid (TwoF w1 w1.heap.size (w1.heap.size + 1) pa pb s w')) (Lib.hid (TwoF.new w1 pa pb s)) (fun w2 ST => ?_)
 obtain ⟨fa, hfa⟩ : ∃ z, z = w1.heap.size := ⟨_, rfl⟩
 obtain ⟨fb, hfb⟩ : ∃ z, z = w1.heap.size + 1 := ⟨_, rfl⟩
 rw [← hfb, ← hfa] at ST ⊢
 clear hfa hfb
 obtain ⟨a0, a1, a2, a3⟩ := ST.out.ba.four
 obtain ⟨b0, b1, b2, b3⟩ := ST.out.bb.four
 have lfa := ST.out.ba.lt
 have lfb := ST.out.bb.lt
 have OLD := Lib.hid (HB.out.trans (ST.out.old.mono HB.out.size))
 go_wp2_with fail
 go_quiet (fail)
 go_wp2_with fail
 go_ret3
 exact ⟨rfl, below_drewN OLD.out _⟩
theorem relo_1 {W : World} {b c g L cap n0 : Nat} {t u : Ty} {p : List Nat} {R : FS × Out} {big : Bool} (r1 : Rep W Nowhere b t) (r2 : Rep W Nowhere c u) (ok1 : FOk t) (ok2 : FOk u) (hc1 : isC t = true) (hc2 : isC u = true) (hacc : Acc W g L (n0 :: p) 0) (hL : L ≤ 5) (hg : g < W.heap.size) (hcap : L ≤ cap) (hR : R = fieldGo p ⟨t, n0 * t.bytes, 0, 0, u, n0 * u.bytes, 0, 0⟩) (ho : R.2 = .found) (hbd : R.1.ao ≤ 61000000 ∧ R.1.bo ≤ 61000000) :
  Calls Tryz.prog 15 #[.pointer (some ⟨b, 0, none⟩), .slice (some ⟨g, 0, none⟩) L cap, .pointer (some ⟨c, 0, none⟩), .int .i64 ((1 : Nat) : Int), .bool big] W fun e w' => e = .returned (.tuple #[.int .u64 (fxA R 1), .int .u64 (fxB R 1 big), .int .i64 (rfO R 1)]) ∧ Below W.heap.size W w' := by
 have HF := Lib.hid (fieldOf_any r1 r2 ok1 ok2 hc1 hc2 hacc hL hg hcap)
 rw [← hR] at HF
 obtain ⟨s, o⟩ := R
 obtain rfl : o = .found := ho
 have hbd : s.ao ≤ 61000000 ∧ s.bo ≤ 61000000 := hbd
 obtain ⟨hao, hbo⟩ := hbd
 clear r1 r2 ok1 ok2 hc1 hc2 hacc hg hR
 show Calls _ _ _ _ fun e w' => e = .returned (.tuple #[.int .u64 ((s.a.bytes : Nat)), .int .u64 ((s.b.bytes : Nat)), .int .i64 0]) ∧ Below W.heap.size W w'
 go_enter Tryz.func15, Tryz.ntmps15
 go_wp2_with fail
 refine HF.out.mono ?_
 rintro e w1 ⟨pa, pb, rfl, ra, rb, oka, okb, hb1⟩
 have HB := Lib.hid hb1
 have RA := Lib.hid (ra.old hb1)
 have RB := Lib.hid (rb.old hb1)
 have OA := Lib.hid oka
 have OB := Lib.hid okb
 unfold fldV
 simp only [Out.code]
 clear hb1 HF ra rb oka okb
 go_upto_region 2 with fail
 refine wp_world (fun w' => Hid (TwoF w1 w1.heap.size (w1.heap.size + 1) pa pb s w')) (Lib.hid (TwoF.new w1 pa pb s)) (fun w2 ST => ?_)
 obtain ⟨fa, hfa⟩ : ∃ z, z = w1.heap.size := ⟨_, rfl⟩
 obtain ⟨fb, hfb⟩ : ∃ z, z = w1.heap.size + 1 := ⟨_, rfl⟩
 rw [← hfb, ← hfa] at ST ⊢
 clear hfa hfb
 obtain ⟨a0, a1, a2, a3⟩ := ST.out.ba.four
 obtain ⟨b0, b1, b2, b3⟩ := ST.out.bb.four
 have lfa := ST.out.ba.lt
 have lfb := ST.out.bb.lt
 have OLD := Lib.hid (HB.out.trans (ST.out.old.mono HB.out.size))
 have HBA : Hid (∀ n, Calls Tryz.prog 12 #[.pointer (some ⟨pa, 0, none⟩)] (w2.drewN n) fun e w' => e = .returned (.int .i64 (s.a.bytes : Nat)) ∧ ∃ m, w' = (w2.drewN n).drewN m) := Lib.hid fun n => bytes_any _ _ _ _ ((RA.out.old ST.out.old).drewN n) OA.out.flat.2
 have HBB : Hid (∀ n, Calls Tryz.prog 12 #[.pointer (some ⟨pb, 0, none⟩)] (w2.drewN n) fun e w' => e = .returned (.int .i64 (s.b.bytes : Nat)) ∧ ∃ m, w' = (w2.drewN n).drewN m) := Lib.hid fun n => bytes_any _ _ _ _ ((RB.out.old ST.out.old).drewN n) OB.out.flat.2
 have hya : (s.a.bytes : Int) ≤ 200000 := by have := OA.out.flat.1; simp only at this; omega
 have hyb : (s.b.bytes : Int) ≤ 200000 := by have := OB.out.flat.1; simp only at this; omega
 have hya0 : (0 : Int) ≤ (s.a.bytes : Int) := by omega
 have hyb0 : (0 : Int) ≤ (s.b.bytes : Int) := by omega
 go_wp2_with fail
 go_quiet ((go_at_call 12; first | (have h := HBA.out; with_reducible exact Calls.quiet_of (h _)) | (have h := HBB.out; with_reducible exact Calls.quiet_of (h _))))
 go_wp2_with fail
 go_ret3
 exact ⟨rfl, below_drewN OLD.out _⟩
theorem relo_2 {W : World} {b c g L cap n0 : Nat} {t u : Ty} {p : List Nat} {R : FS × Out} {big : Bool} (r1 : Rep W Nowhere b t) (r2 : Rep W Nowhere c u) (ok1 : FOk t) (ok2 : FOk u) (hc1 : isC t = true) (hc2 : isC u = true) (hacc : Acc W g L (n0 :: p) 0) (hL : L ≤ 5) (hg : g < W.heap.size) (hcap : L ≤ cap) (hR : R = fieldGo p ⟨t, n0 * t.bytes, 0, 0, u, n0 * u.bytes, 0, 0⟩) (ho : R.2 = .found) (hbd : R.1.ao ≤ 61000000 ∧ R.1.bo ≤ 61000000) :
  Calls Tryz.prog 15 #[.pointer (some ⟨b, 0, none⟩), .slice (some ⟨g, 0, none⟩) L cap, .pointer (some ⟨c, 0, none⟩), .int .i64 ((2 : Nat) : Int), .bool big] W fun e w' => e = .returned (.tuple #[.int .u64 (fxA R 2), .int .u64 (fxB R 2 big), .int .i64 (rfO R 2)]) ∧ Below W.heap.size W w' := by
 have HF := Lib.hid (fieldOf_any r1 r2 ok1 ok2 hc1 hc2 hacc hL hg hcap)
 rw [← hR] at HF
 obtain ⟨s, o⟩ := R
 obtain rfl : o = .found := ho
 have hbd : s.ao ≤ 61000000 ∧ s.bo ≤ 61000000 := hbd
 obtain ⟨hao, hbo⟩ := hbd
 clear r1 r2 ok1 ok2 hc1 hc2 hacc hg hR
 show Calls _ _ _ _ fun e w' => e = .returned (.tuple #[.int .u64 (1), .int .u64 (1), .int .i64 0]) ∧ Below W.heap.size W w'
 go_enter Tryz.func15, Tryz.ntmps15
 go_wp2_with fail
 refine HF.out.mono ?_
 rintro e w1 ⟨pa, pb, rfl, ra, rb, oka, okb, hb1⟩
 have HB := Lib.hid hb1
 have RA := Lib.hid (ra.old hb1)
 have RB := Lib.hid (rb.old hb1)
 have OA := Lib.hid oka
 have OB := Lib.hid okb
 unfold fldV
 simp only [Out.code]
 clear hb1 HF ra rb oka okb
 go_upto_region 2 with fail
 refine wp_world (fun w' => Hid (TwoF w1 w1.heap.size (w1.heap.size + 1) pa pb s w')) (Lib.hid (TwoF.new w1 pa pb s)) (fun w2 ST => ?_)
 obtain ⟨fa, hfa⟩ : ∃ z, z = w1.heap.size := ⟨_, rfl⟩
 obtain ⟨fb, hfb⟩ : ∃ z, z = w1.heap.size + 1 := ⟨_, rfl⟩
 rw [← hfb, ← hfa] at ST ⊢
 clear hfa hfb
 obtain ⟨a0, a1, a2, a3⟩ := ST.out.ba.four
 obtain ⟨b0, b1, b2, b3⟩ := ST.out.bb.four
 have lfa := ST.out.ba.lt
 have lfb := ST.out.bb.lt
 have OLD := Lib.hid (HB.out.trans (ST.out.old.mono HB.out.size))
 go_wp2_with fail
 go_ret3
 exact ⟨rfl, OLD.out⟩
theorem relo_3 {W : World} {b c g L cap n0 : Nat} {t u : Ty} {p : List Nat} {R : FS × Out} {big : Bool} (r1 : Rep W Nowhere b t) (r2 : Rep W Nowhere c u) (ok1 : FOk t) (ok2 : FOk u) (hc1 : isC t = true) (hc2 : isC u = true) (hacc : Acc W g L (n0 :: p) 0) (hL : L ≤ 5) (hg : g < W.heap.size) (hcap : L ≤ cap) (hR : R = fieldGo p ⟨t, n0 * t.bytes, 0, 0, u, n0 * u.bytes, 0, 0⟩) (ho : R.2 = .found) (hbd : R.1.ao ≤ 61000000 ∧ R.1.bo ≤ 61000000) :
  Calls Tryz.prog 15 #[.pointer (some ⟨b, 0, none⟩), .slice (some ⟨g, 0, none⟩) L cap, .pointer (some ⟨c, 0, none⟩), .int .i64 ((3 : Nat) : Int), .bool big] W fun e w' => e = .returned (.tuple #[.int .u64 (fxA R 3), .int .u64 (fxB R 3 big), .int .i64 (rfO R 3)]) ∧ Below W.heap.size W w' := by
 have HF := Lib.hid (fieldOf_any r1 r2 ok1 ok2 hc1 hc2 hacc hL hg hcap)
 rw [← hR] at HF
 obtain ⟨s, o⟩ := R
 obtain rfl : o = .found := ho
 have hbd : s.ao ≤ 61000000 ∧ s.bo ≤ 61000000 := hbd
 obtain ⟨hao, hbo⟩ := hbd
 clear r1 r2 ok1 ok2 hc1 hc2 hacc hg hR
 show Calls _ _ _ _ fun e w' => e = .returned (.tuple #[.int .u64 (sgn s.a), .int .u64 (sgn s.b), .int .i64 0]) ∧ Below W.heap.size W w'
 go_enter Tryz.func15, Tryz.ntmps15
 go_wp2_with fail
 refine HF.out.mono ?_
 rintro e w1 ⟨pa, pb, rfl, ra, rb, oka, okb, hb1⟩
 have HB := Lib.hid hb1
 have RA := Lib.hid (ra.old hb1)
 have RB := Lib.hid (rb.old hb1)
 have OA := Lib.hid oka
 have OB := Lib.hid okb
 unfold fldV
 simp only [Out.code]
 clear hb1 HF ra rb oka okb
 go_upto_region 2 with fail
 refine wp_world (fun w' => Hid (TwoF w1 w1.heap.size (w1.heap.size + 1) pa pb s w')) (Lib.hid (TwoF.new w1 pa pb s)) (fun w2 ST => ?_)
 obtain ⟨fa, hfa⟩ : ∃ z, z = w1.heap.size := ⟨_, rfl⟩
 obtain ⟨fb, hfb⟩ : ∃ z, z = w1.heap.size + 1 := ⟨_, rfl⟩
 rw [← hfb, ← hfa] at ST ⊢
 clear hfa hfb
 obtain ⟨a0, a1, a2, a3⟩ := ST.out.ba.four
 obtain ⟨b0, b1, b2, b3⟩ := ST.out.bb.four
 have lfa := ST.out.ba.lt
 have lfb := ST.out.bb.lt
 have OLD := Lib.hid (HB.out.trans (ST.out.old.mono HB.out.size))
 go_wp2_with fail
 have hS0 : w2.drew.cell? ⟨fa, 0, none⟩ = some (.pointer (some ⟨pa, 0, none⟩)) ∧ w2.drew.cell? ⟨fa, 1, none⟩ = some (.int .i64 (s.ao : Nat)) ∧ w2.drew.cell? ⟨fa, 2, none⟩ = some (.int .i64 (s.ab : Nat)) ∧ w2.drew.cell? ⟨fa, 3, none⟩ = some (.int .i64 (s.af : Nat)) ∧ w2.drew.cell? ⟨fb, 0, none⟩ = some (.pointer (some ⟨pb, 0, none⟩)) ∧ w2.drew.cell? ⟨fb, 1, none⟩ = some (.int .i64 (s.bo : Nat)) ∧ w2.drew.cell? ⟨fb, 2, none⟩ = some (.int .i64 (s.bb : Nat)) ∧ w2.drew.cell? ⟨fb, 3, none⟩ = some (.int .i64 (s.bf : Nat)) := ⟨a0, a1, a2, a3, b0, b1, b2, b3⟩
 have hSof : ∀ w', Below w2.heap.size w2 w' → w'.cell? ⟨fa, 0, none⟩ = some (.pointer (some ⟨pa, 0, none⟩)) ∧ w'.cell? ⟨fa, 1, none⟩ = some (.int .i64 (s.ao : Nat)) ∧ w'.cell? ⟨fa, 2, none⟩ = some (.int .i64 (s.ab : Nat)) ∧ w'.cell? ⟨fa, 3, none⟩ = some (.int .i64 (s.af : Nat)) ∧ w'.cell? ⟨fb, 0, none⟩ = some (.pointer (some ⟨pb, 0, none⟩)) ∧ w'.cell? ⟨fb, 1, none⟩ = some (.int .i64 (s.bo : Nat)) ∧ w'.cell? ⟨fb, 2, none⟩ = some (.int .i64 (s.bb : Nat)) ∧ w'.cell? ⟨fb, 3, none⟩ = some (.int .i64 (s.bf : Nat)) :=
  fun w' hb => ⟨(hb.cell (p := ⟨fa, 0, none⟩) lfa).trans a0, (hb.cell (p := ⟨fa, 1, none⟩) lfa).trans a1, (hb.cell (p := ⟨fa, 2, none⟩) lfa).trans a2, (hb.cell (p := ⟨fa, 3, none⟩) lfa).trans a3, (hb.cell (p := ⟨fb, 0, none⟩) lfb).trans b0, (hb.cell (p := ⟨fb, 1, none⟩) lfb).trans b1, (hb.cell (p := ⟨fb, 2, none⟩) lfb).trans b2, (hb.cell (p := ⟨fb, 3, none⟩) lfb).trans b3⟩
 refine AnyBut.start (S := (fun w' : World => w'.cell? ⟨fa, 0, none⟩ = some (.pointer (some ⟨pa, 0, none⟩)) ∧ w'.cell? ⟨fa, 1, none⟩ = some (.int .i64 (s.ao : Nat)) ∧ w'.cell? ⟨fa, 2, none⟩ = some (.int .i64 (s.ab : Nat)) ∧ w'.cell? ⟨fa, 3, none⟩ = some (.int .i64 (s.af : Nat)) ∧ w'.cell? ⟨fb, 0, none⟩ = some (.pointer (some ⟨pb, 0, none⟩)) ∧ w'.cell? ⟨fb, 1, none⟩ = some (.int .i64 (s.bo : Nat)) ∧ w'.cell? ⟨fb, 2, none⟩ = some (.int .i64 (s.bb : Nat)) ∧ w'.cell? ⟨fb, 3, none⟩ = some (.int .i64 (s.bf : Nat)))) (t := 6) (by as_aux_lemma => kernel_rfl) (hS0) (fun hHeld => ?_)
 refine AnyBut.tk (i := 0) (v := ?_) rfl (by as_aux_lemma => kernel_rfl) (fun _ _ _ h => h) hHeld (by rfl) ?_ ?_
 rotate_left
 focus (intro w hSw; (try dsimp only at hSw); go_simp <;> with_reducible rfl)
 try simp only [Act.put, zl4, zl5, zl6]
 refine AnyBut.tk (i := 2) (v := ?_) rfl (by as_aux_lemma => kernel_rfl) (fun _ _ _ h => h) hHeld (by rfl) ?_ ?_
 rotate_left
 focus (intro w hSw; (try dsimp only at hSw); go_simp <;> with_reducible rfl)
 try simp only [Act.put, zl4, zl5, zl6]
 refine AnyBut.one (i := 1) (by as_aux_lemma => kernel_rfl) rfl (fun K hK => ?_)
 go_simp
 go_at_call 32
 refine (sign_any (RA.out.old ST.out.old.drew)).mono ?_
 rintro e w3 ⟨rfl, hb3⟩
 have hb3' : Below w2.heap.size w2 w3 := (Below.refl _ _).drew.trans hb3
 have HB3 := Lib.hid hb3'
 clear hb3 hb3'
 refine hK.out _ _ (hSof w3 HB3.out) (fun hHeld => ?_)
 clear hK K
 try simp only [Act.put, zl4, zl5, zl6]
 refine AnyBut.one (i := 3) (by as_aux_lemma => kernel_rfl) rfl (fun K hK => ?_)
 go_simp
 go_at_call 32
 refine (sign_any (RB.out.old (ST.out.old.trans (HB3.out.mono ST.out.old.size)))).mono ?_
 rintro e w4 ⟨rfl, hb4⟩
 have HB4 := Lib.hid (HB3.out.trans (hb4.mono HB3.out.size))
 clear hb4
 refine hK.out _ _ (hSof w4 HB4.out) (fun hHeld => ?_)
 clear hK K
 try simp only [Act.put, zl4, zl5, zl6]
 refine AnyBut.tk (i := 4) (v := ?_) rfl (by as_aux_lemma => kernel_rfl) (fun _ _ _ h => h) hHeld (by rfl) ?_ ?_
 rotate_left
 focus (intro w hSw; (try dsimp only at hSw); go_simp <;> with_reducible rfl)
 try simp only [Act.put, zl4, zl5, zl6]
 refine AnyBut.tk (i := 5) (v := ?_) rfl (by as_aux_lemma => kernel_rfl) (fun _ _ _ h => h) hHeld (by rfl) ?_ ?_
 rotate_left
 focus (intro w hSw; (try dsimp only at hSw); go_simp <;> with_reducible rfl)
 try simp only [Act.put, zl4, zl5, zl6]
 refine AnyBut.last (by as_aux_lemma => kernel_rfl) rfl (by as_aux_lemma => kernel_rfl) (fun K hK => ?_)
 go_simp
 refine hK.out _ _ ?_
 clear hK K
 try simp only [Act.put, zl4, zl5, zl6]
 go_wp2_with fail
 go_ret3
 exact ⟨rfl, OLD.out.trans (HB4.out.mono OLD.out.size)⟩
theorem relo_4b {W : World} {b c g L cap n0 : Nat} {t u : Ty} {p : List Nat} {R : FS × Out} {big : Bool} (r1 : Rep W Nowhere b t) (r2 : Rep W Nowhere c u) (ok1 : FOk t) (ok2 : FOk u) (hc1 : isC t = true) (hc2 : isC u = true) (hacc : Acc W g L (n0 :: p) 0) (hL : L ≤ 5) (hg : g < W.heap.size) (hcap : L ≤ cap) (hR : R = fieldGo p ⟨t, n0 * t.bytes, 0, 0, u, n0 * u.bytes, 0, 0⟩) (ho : R.2 = .found) (hbd : R.1.ao ≤ 61000000 ∧ R.1.bo ≤ 61000000) (hs : Shf R.1) (hbig : big = true) :
  Calls Tryz.prog 15 #[.pointer (some ⟨b, 0, none⟩), .slice (some ⟨g, 0, none⟩) L cap, .pointer (some ⟨c, 0, none⟩), .int .i64 ((4 : Nat) : Int), .bool big] W fun e w' => e = .returned (.tuple #[.int .u64 (fxA R 4), .int .u64 (fxB R 4 big), .int .i64 (rfO R 4)]) ∧ Below W.heap.size W w' := by
 have HF := Lib.hid (fieldOf_any r1 r2 ok1 ok2 hc1 hc2 hacc hL hg hcap)
 rw [← hR] at HF
 obtain ⟨s, o⟩ := R
 obtain rfl : o = .found := ho
 have hbd : s.ao ≤ 61000000 ∧ s.bo ≤ 61000000 := hbd
 obtain ⟨hao, hbo⟩ := hbd
 cases hbig
 obtain ⟨hw, hz⟩ := hs
 simp only at hw hz
 clear r1 r2 ok1 ok2 hc1 hc2 hacc hg hR
 show Calls _ _ _ _ fun e w' => e = .returned (.tuple #[.int .u64 (0), .int .u64 (64 - 8 * (s.b.bytes : Int) + (s.bf : Int)), .int .i64 0]) ∧ Below W.heap.size W w'
 go_enter Tryz.func15, Tryz.ntmps15
 go_wp2_with fail
 refine HF.out.mono ?_
 rintro e w1 ⟨pa, pb, rfl, ra, rb, oka, okb, hb1⟩
 have HB := Lib.hid hb1
 have RA := Lib.hid (ra.old hb1)
 have RB := Lib.hid (rb.old hb1)
 have OA := Lib.hid oka
 have OB := Lib.hid okb
 unfold fldV
 simp only [Out.code]
 clear hb1 HF ra rb oka okb
 go_upto_region 2 with fail
 refine wp_world (fun w' => Hid (TwoF w1 w1.heap.size (w1.heap.size + 1) pa pb s w')) (Lib.hid (TwoF.new w1 pa pb s)) (fun w2 ST => ?_)
 obtain ⟨fa, hfa⟩ : ∃ z, z = w1.heap.size := ⟨_, rfl⟩
 obtain ⟨fb, hfb⟩ : ∃ z, z = w1.heap.size + 1 := ⟨_, rfl⟩
 rw [← hfb, ← hfa] at ST ⊢
 clear hfa hfb
 obtain ⟨a0, a1, a2, a3⟩ := ST.out.ba.four
 obtain ⟨b0, b1, b2, b3⟩ := ST.out.bb.four
 have lfa := ST.out.ba.lt
 have lfb := ST.out.bb.lt
 have OLD := Lib.hid (HB.out.trans (ST.out.old.mono HB.out.size))
 have HBB : Hid (∀ n, Calls Tryz.prog 12 #[.pointer (some ⟨pb, 0, none⟩)] (w2.drewN n) fun e w' => e = .returned (.int .i64 (s.b.bytes : Nat)) ∧ ∃ m, w' = (w2.drewN n).drewN m) := Lib.hid fun n => bytes_any _ _ _ _ ((RB.out.old ST.out.old).drewN n) OB.out.flat.2
 have hyb : (s.b.bytes : Int) ≤ 8 := by omega
 have hyb0 : (0 : Int) ≤ (s.b.bytes : Int) := by omega
 have hbf : (s.bf : Int) ≤ 64 := by omega
 have hbf0 : (0 : Int) ≤ (s.bf : Int) := by omega
 go_wp2_with fail
 go_quiet ((go_at_call 12; exact Calls.quiet_of (HBB.out _)))
 go_wp2_with fail
 go_ret3
 exact ⟨rfl, below_drewN OLD.out _⟩
theorem relo_4l {W : World} {b c g L cap n0 : Nat} {t u : Ty} {p : List Nat} {R : FS × Out} {big : Bool} (r1 : Rep W Nowhere b t) (r2 : Rep W Nowhere c u) (ok1 : FOk t) (ok2 : FOk u) (hc1 : isC t = true) (hc2 : isC u = true) (hacc : Acc W g L (n0 :: p) 0) (hL : L ≤ 5) (hg : g < W.heap.size) (hcap : L ≤ cap) (hR : R = fieldGo p ⟨t, n0 * t.bytes, 0, 0, u, n0 * u.bytes, 0, 0⟩) (ho : R.2 = .found) (hbd : R.1.ao ≤ 61000000 ∧ R.1.bo ≤ 61000000) (hs : Shf R.1) (hbig : big = false) :
  Calls Tryz.prog 15 #[.pointer (some ⟨b, 0, none⟩), .slice (some ⟨g, 0, none⟩) L cap, .pointer (some ⟨c, 0, none⟩), .int .i64 ((4 : Nat) : Int), .bool big] W fun e w' => e = .returned (.tuple #[.int .u64 (fxA R 4), .int .u64 (fxB R 4 big), .int .i64 (rfO R 4)]) ∧ Below W.heap.size W w' := by
 have HF := Lib.hid (fieldOf_any r1 r2 ok1 ok2 hc1 hc2 hacc hL hg hcap)
 rw [← hR] at HF
 obtain ⟨s, o⟩ := R
 obtain rfl : o = .found := ho
 have hbd : s.ao ≤ 61000000 ∧ s.bo ≤ 61000000 := hbd
 obtain ⟨hao, hbo⟩ := hbd
 cases hbig
 obtain ⟨hw, hz⟩ := hs
 simp only at hw hz
 clear r1 r2 ok1 ok2 hc1 hc2 hacc hg hR
 show Calls _ _ _ _ fun e w' => e = .returned (.tuple #[.int .u64 (0), .int .u64 (64 - (s.bf : Int) - (wid s : Int)), .int .i64 0]) ∧ Below W.heap.size W w'
 go_enter Tryz.func15, Tryz.ntmps15
 go_wp2_with fail
 refine HF.out.mono ?_
 rintro e w1 ⟨pa, pb, rfl, ra, rb, oka, okb, hb1⟩
 have HB := Lib.hid hb1
 have RA := Lib.hid (ra.old hb1)
 have RB := Lib.hid (rb.old hb1)
 have OA := Lib.hid oka
 have OB := Lib.hid okb
 unfold fldV
 simp only [Out.code]
 clear hb1 HF ra rb oka okb
 go_upto_region 2 with fail
 refine wp_world (fun w' => Hid (TwoF w1 w1.heap.size (w1.heap.size + 1) pa pb s w')) (Lib.hid (TwoF.new w1 pa pb s)) (fun w2 ST => ?_)
 obtain ⟨fa, hfa⟩ : ∃ z, z = w1.heap.size := ⟨_, rfl⟩
 obtain ⟨fb, hfb⟩ : ∃ z, z = w1.heap.size + 1 := ⟨_, rfl⟩
 rw [← hfb, ← hfa] at ST ⊢
 clear hfa hfb
 obtain ⟨a0, a1, a2, a3⟩ := ST.out.ba.four
 obtain ⟨b0, b1, b2, b3⟩ := ST.out.bb.four
 have lfa := ST.out.ba.lt
 have lfb := ST.out.bb.lt
 have OLD := Lib.hid (HB.out.trans (ST.out.old.mono HB.out.size))
 have hbf : (s.bf : Int) ≤ 64 := by omega
 have hbf0 : (0 : Int) ≤ (s.bf : Int) := by omega
 have hwi : (wid s : Int) ≤ 64 - (s.bf : Int) := by omega
 have hwi0 : (0 : Int) ≤ (wid s : Int) := by omega
 have e1 : IntKind.i64.wrap (64 - (s.bf : Int)) = 64 - (s.bf : Int) := IntWalk.i64_in _ (by omega)
 have e2 : IntKind.i64.wrap (64 - (s.bf : Int) - (wid s : Int)) = 64 - (s.bf : Int) - (wid s : Int) := IntWalk.i64_in _ (by omega)
 have e3 : IntKind.u64.wrap (64 - (s.bf : Int) - (wid s : Int)) = 64 - (s.bf : Int) - (wid s : Int) := IntWalk.u64_in _ (by omega)
 go_wp2_with fail
 have hS0 : w2.drew.cell? ⟨fa, 0, none⟩ = some (.pointer (some ⟨pa, 0, none⟩)) ∧ w2.drew.cell? ⟨fa, 1, none⟩ = some (.int .i64 (s.ao : Nat)) ∧ w2.drew.cell? ⟨fa, 2, none⟩ = some (.int .i64 (s.ab : Nat)) ∧ w2.drew.cell? ⟨fa, 3, none⟩ = some (.int .i64 (s.af : Nat)) ∧ w2.drew.cell? ⟨fb, 0, none⟩ = some (.pointer (some ⟨pb, 0, none⟩)) ∧ w2.drew.cell? ⟨fb, 1, none⟩ = some (.int .i64 (s.bo : Nat)) ∧ w2.drew.cell? ⟨fb, 2, none⟩ = some (.int .i64 (s.bb : Nat)) ∧ w2.drew.cell? ⟨fb, 3, none⟩ = some (.int .i64 (s.bf : Nat)) := ⟨a0, a1, a2, a3, b0, b1, b2, b3⟩
 have hSof : ∀ w', Below w2.heap.size w2 w' → w'.cell? ⟨fa, 0, none⟩ = some (.pointer (some ⟨pa, 0, none⟩)) ∧ w'.cell? ⟨fa, 1, none⟩ = some (.int .i64 (s.ao : Nat)) ∧ w'.cell? ⟨fa, 2, none⟩ = some (.int .i64 (s.ab : Nat)) ∧ w'.cell? ⟨fa, 3, none⟩ = some (.int .i64 (s.af : Nat)) ∧ w'.cell? ⟨fb, 0, none⟩ = some (.pointer (some ⟨pb, 0, none⟩)) ∧ w'.cell? ⟨fb, 1, none⟩ = some (.int .i64 (s.bo : Nat)) ∧ w'.cell? ⟨fb, 2, none⟩ = some (.int .i64 (s.bb : Nat)) ∧ w'.cell? ⟨fb, 3, none⟩ = some (.int .i64 (s.bf : Nat)) :=
  fun w' hb => ⟨(hb.cell (p := ⟨fa, 0, none⟩) lfa).trans a0, (hb.cell (p := ⟨fa, 1, none⟩) lfa).trans a1, (hb.cell (p := ⟨fa, 2, none⟩) lfa).trans a2, (hb.cell (p := ⟨fa, 3, none⟩) lfa).trans a3, (hb.cell (p := ⟨fb, 0, none⟩) lfb).trans b0, (hb.cell (p := ⟨fb, 1, none⟩) lfb).trans b1, (hb.cell (p := ⟨fb, 2, none⟩) lfb).trans b2, (hb.cell (p := ⟨fb, 3, none⟩) lfb).trans b3⟩
 refine AnyBut.start (S := (fun w' : World => w'.cell? ⟨fa, 0, none⟩ = some (.pointer (some ⟨pa, 0, none⟩)) ∧ w'.cell? ⟨fa, 1, none⟩ = some (.int .i64 (s.ao : Nat)) ∧ w'.cell? ⟨fa, 2, none⟩ = some (.int .i64 (s.ab : Nat)) ∧ w'.cell? ⟨fa, 3, none⟩ = some (.int .i64 (s.af : Nat)) ∧ w'.cell? ⟨fb, 0, none⟩ = some (.pointer (some ⟨pb, 0, none⟩)) ∧ w'.cell? ⟨fb, 1, none⟩ = some (.int .i64 (s.bo : Nat)) ∧ w'.cell? ⟨fb, 2, none⟩ = some (.int .i64 (s.bb : Nat)) ∧ w'.cell? ⟨fb, 3, none⟩ = some (.int .i64 (s.bf : Nat)))) (t := 9) (by as_aux_lemma => kernel_rfl) (hS0) (fun hHeld => ?_)
 refine AnyBut.tk (i := 0) (v := ?_) rfl (by as_aux_lemma => kernel_rfl) (fun _ _ _ h => h) hHeld (by rfl) ?_ ?_
 rotate_left
 focus (intro w hSw; (try dsimp only at hSw); go_simp <;> with_reducible rfl)
 try simp only [Act.put, zl4, zl5, zl6]
 refine AnyBut.tk (i := 1) (v := ?_) rfl (by as_aux_lemma => kernel_rfl) (fun _ _ _ h => h) hHeld (by rfl) ?_ ?_
 rotate_left
 focus (intro w hSw; (try dsimp only at hSw); go_simp <;> with_reducible rfl)
 try simp only [Act.put, zl4, zl5, zl6]
 refine AnyBut.tk (i := 2) (v := ?_) rfl (by as_aux_lemma => kernel_rfl) (fun _ _ _ h => h) hHeld (by rfl) ?_ ?_
 rotate_left
 focus (intro w hSw; (try dsimp only at hSw); go_simp <;> with_reducible rfl)
 try simp only [Act.put, zl4, zl5, zl6]
 refine AnyBut.tk (i := 3) (v := ?_) rfl (by as_aux_lemma => kernel_rfl) (fun _ _ _ h => h) hHeld (by rfl) ?_ ?_
 rotate_left
 focus (intro w hSw; (try dsimp only at hSw); go_simp <;> with_reducible rfl)
 try simp only [Act.put, zl4, zl5, zl6]
 refine AnyBut.one (i := 4) (by as_aux_lemma => kernel_rfl) rfl (fun K hK => ?_)
 go_simp
 go_at_call 33
 refine (width_any (z := wid s) (RB.out.old ST.out.old.drew) OB.out.flat.2 OB.out.flat.1 rfl).mono ?_
 rintro e w3 ⟨rfl, hb3⟩
 have hb3' : Below w2.heap.size w2 w3 := (Below.refl _ _).drew.trans hb3
 have HB3 := Lib.hid hb3'
 clear hb3 hb3'
 refine hK.out _ _ (hSof w3 HB3.out) (fun hHeld => ?_)
 clear hK K
 try simp only [Act.put, zl4, zl5, zl6]
 refine AnyBut.tk (i := 5) (v := ?_) rfl (by as_aux_lemma => kernel_rfl) (fun _ _ _ h => h) hHeld (by rfl) ?_ ?_
 rotate_left
 focus (intro w hSw; (try dsimp only at hSw); go_simp <;> with_reducible rfl)
 try simp only [Act.put, zl4, zl5, zl6]
 refine AnyBut.tk (i := 6) (v := ?_) rfl (by as_aux_lemma => kernel_rfl) (fun _ _ _ h => h) hHeld (by rfl) ?_ ?_
 rotate_left
 focus (intro w hSw; (try dsimp only at hSw); go_simp <;> with_reducible rfl)
 try simp only [Act.put, zl4, zl5, zl6]
 refine AnyBut.tk (i := 7) (v := ?_) rfl (by as_aux_lemma => kernel_rfl) (fun _ _ _ h => h) hHeld (by rfl) ?_ ?_
 rotate_left
 focus (intro w hSw; (try dsimp only at hSw); go_simp <;> with_reducible rfl)
 try simp only [Act.put, zl4, zl5, zl6]
 refine AnyBut.tk (i := 8) (v := ?_) rfl (by as_aux_lemma => kernel_rfl) (fun _ _ _ h => h) hHeld (by rfl) ?_ ?_
 rotate_left
 focus (intro w hSw; (try dsimp only at hSw); go_simp <;> with_reducible rfl)
 try simp only [Act.put, zl4, zl5, zl6]
 refine AnyBut.last (by as_aux_lemma => kernel_rfl) rfl (by as_aux_lemma => kernel_rfl) (fun K hK => ?_)
 go_simp
 refine hK.out _ _ ?_
 clear hK K
 try simp only [Act.put, zl4, zl5, zl6]
 go_wp2_with fail
 go_ret3
 exact ⟨rfl, OLD.out.trans (HB3.out.mono OLD.out.size)⟩
theorem relo_5 {W : World} {b c g L cap n0 : Nat} {t u : Ty} {p : List Nat} {R : FS × Out} {big : Bool} (r1 : Rep W Nowhere b t) (r2 : Rep W Nowhere c u) (ok1 : FOk t) (ok2 : FOk u) (hc1 : isC t = true) (hc2 : isC u = true) (hacc : Acc W g L (n0 :: p) 0) (hL : L ≤ 5) (hg : g < W.heap.size) (hcap : L ≤ cap) (hR : R = fieldGo p ⟨t, n0 * t.bytes, 0, 0, u, n0 * u.bytes, 0, 0⟩) (ho : R.2 = .found) (hbd : R.1.ao ≤ 61000000 ∧ R.1.bo ≤ 61000000) (hs : Shf R.1) :
  Calls Tryz.prog 15 #[.pointer (some ⟨b, 0, none⟩), .slice (some ⟨g, 0, none⟩) L cap, .pointer (some ⟨c, 0, none⟩), .int .i64 ((5 : Nat) : Int), .bool big] W fun e w' => e = .returned (.tuple #[.int .u64 (fxA R 5), .int .u64 (fxB R 5 big), .int .i64 (rfO R 5)]) ∧ Below W.heap.size W w' := by
 have HF := Lib.hid (fieldOf_any r1 r2 ok1 ok2 hc1 hc2 hacc hL hg hcap)
 rw [← hR] at HF
 obtain ⟨s, o⟩ := R
 obtain rfl : o = .found := ho
 have hbd : s.ao ≤ 61000000 ∧ s.bo ≤ 61000000 := hbd
 obtain ⟨hao, hbo⟩ := hbd
 obtain ⟨hw, hz⟩ := hs
 simp only at hw hz
 clear r1 r2 ok1 ok2 hc1 hc2 hacc hg hR
 show Calls _ _ _ _ fun e w' => e = .returned (.tuple #[.int .u64 (0), .int .u64 (64 - (wid s : Int)), .int .i64 0]) ∧ Below W.heap.size W w'
 go_enter Tryz.func15, Tryz.ntmps15
 go_wp2_with fail
 refine HF.out.mono ?_
 rintro e w1 ⟨pa, pb, rfl, ra, rb, oka, okb, hb1⟩
 have HB := Lib.hid hb1
 have RA := Lib.hid (ra.old hb1)
 have RB := Lib.hid (rb.old hb1)
 have OA := Lib.hid oka
 have OB := Lib.hid okb
 unfold fldV
 simp only [Out.code]
 clear hb1 HF ra rb oka okb
 go_upto_region 2 with fail
 refine wp_world (fun w' => Hid (TwoF w1 w1.heap.size (w1.heap.size + 1) pa pb s w')) (Lib.hid (TwoF.new w1 pa pb s)) (fun w2 ST => ?_)
 obtain ⟨fa, hfa⟩ : ∃ z, z = w1.heap.size := ⟨_, rfl⟩
 obtain ⟨fb, hfb⟩ : ∃ z, z = w1.heap.size + 1 := ⟨_, rfl⟩
 rw [← hfb, ← hfa] at ST ⊢
 clear hfa hfb
 obtain ⟨a0, a1, a2, a3⟩ := ST.out.ba.four
 obtain ⟨b0, b1, b2, b3⟩ := ST.out.bb.four
 have lfa := ST.out.ba.lt
 have lfb := ST.out.bb.lt
 have OLD := Lib.hid (HB.out.trans (ST.out.old.mono HB.out.size))
 have hwi : (wid s : Int) ≤ 64 := by omega
 have hwi0 : (0 : Int) ≤ (wid s : Int) := by omega
 go_wp2_with fail
 refine (width_any (z := wid s) (RB.out.old ST.out.old) OB.out.flat.2 OB.out.flat.1 rfl).mono ?_
 rintro e w3 ⟨rfl, hb3⟩
 have HB3 := Lib.hid hb3
 clear hb3
 go_wp2_with fail
 go_ret3
 exact ⟨rfl, OLD.out.trans (HB3.out.mono OLD.out.size)⟩
theorem relo_any {W : World} {b c g L cap n0 k : Nat} {t u : Ty} {p : List Nat} {R : FS × Out} {big : Bool} (r1 : Rep W Nowhere b t) (r2 : Rep W Nowhere c u) (ok1 : FOk t) (ok2 : FOk u) (hc1 : isC t = true) (hc2 : isC u = true) (hacc : Acc W g L (n0 :: p) 0) (hL : L ≤ 5) (hg : g < W.heap.size) (hcap : L ≤ cap) (hR : R = fieldGo p ⟨t, n0 * t.bytes, 0, 0, u, n0 * u.bytes, 0, 0⟩) (hk : k ≤ 5) (hbd : R.2 = .found → R.1.ao ≤ 61000000 ∧ R.1.bo ≤ 61000000) (hs : R.2 = .found → 3 < k → Shf R.1) :
  Calls Tryz.prog 15 #[.pointer (some ⟨b, 0, none⟩), .slice (some ⟨g, 0, none⟩) L cap, .pointer (some ⟨c, 0, none⟩), .int .i64 (k : Nat), .bool big] W fun e w' => e = .returned (.tuple #[.int .u64 (fxA R k), .int .u64 (fxB R k big), .int .i64 (rfO R k)]) ∧ Below W.heap.size W w' := by
 by_cases ho : R.2 = .found
 ·rcases (by omega : k = 0 ∨ k = 1 ∨ k = 2 ∨ k = 3 ∨ k = 4 ∨ k = 5) with rfl | rfl | rfl | rfl | rfl | rfl
  ·exact relo_0 r1 r2 ok1 ok2 hc1 hc2 hacc hL hg hcap hR ho (hbd ho)
  ·exact relo_1 r1 r2 ok1 ok2 hc1 hc2 hacc hL hg hcap hR ho (hbd ho)
  ·exact relo_2 r1 r2 ok1 ok2 hc1 hc2 hacc hL hg hcap hR ho (hbd ho)
  ·exact relo_3 r1 r2 ok1 ok2 hc1 hc2 hacc hL hg hcap hR ho (hbd ho)
  ·cases big with
   | true => exact relo_4b r1 r2 ok1 ok2 hc1 hc2 hacc hL hg hcap hR ho (hbd ho) (hs ho (by omega)) rfl
   | false => exact relo_4l r1 r2 ok1 ok2 hc1 hc2 hacc hL hg hcap hR ho (hbd ho) (hs ho (by omega)) rfl
  ·exact relo_5 r1 r2 ok1 ok2 hc1 hc2 hacc hL hg hcap hR ho (hbd ho) (hs ho (by omega))
 ·exact relo_not r1 r2 ok1 ok2 hc1 hc2 hacc hL hg hcap hR hk ho
theorem U32s.prefixN {w : World} {a : Option Addr} {n cap : Nat} (h : U32s w (.slice a n cap) n) (k c : Nat) (hk : k ≤ n) : U32s w (.slice a k c) k := by
 obtain ⟨a', cap', e, h⟩ := h
 simp only [Value.slice.injEq, true_and] at e
 obtain ⟨rfl, -⟩ := e
 refine ⟨a, c, rfl, ?_⟩
 rcases h with h | ⟨b, off, rfl, hb, hc⟩
 ·exact .inl (by omega)
 ·exact .inr ⟨b, off, rfl, hb, fun i hi => hc i (by omega)⟩
theorem U8s.old {w w' : World} {v : Value} {n : Nat} (h : U8s w v n) (hb : Below w.heap.size w w') : U8s w' v n := by
 obtain ⟨a, cap, rfl, hc, h⟩ := h
 refine ⟨a, cap, rfl, hc, h.imp id ?_⟩
 rintro ⟨b, off, rfl, hlt, h⟩
 exact ⟨b, off, rfl, Nat.lt_of_lt_of_le hlt hb.size, fun i hi => by
  obtain ⟨z, h1, h2⟩ := h i hi
  exact ⟨z, (hb.cell (p := ⟨b, off + i, none⟩) hlt).trans h1, h2⟩⟩
theorem kindSign {t : Ty} (h : t.behind.kind = 1 ∨ t.behind.kind = 6) : HasSign t := by
 unfold HasSign
 cases e : t.behind with
 | int sz sg nm => exact .inl ⟨_, _, _, rfl⟩
 | enm nm sg n vn vv => exact .inr ⟨_, _, _, _, _, rfl⟩
 | comp un => rw [e] at h; cases un <;> simp [Ty.kind] at h
 | _ => rw [e] at h; simp [Ty.kind] at h
theorem rest_three {R : FS × Out} {k : Nat} : (fxO R = false ∧ rfO R k = 2) ∨ (fxO R = true ∧ fxP R k = true ∧ rfO R k = 1) ∨ (fxO R = true ∧ fxP R k = false ∧ rfO R k = 0) := by
 obtain ⟨s, o⟩ := R
 cases o with
 | wrong => exact .inl ⟨rfl, rfl⟩
 | poison =>
  by_cases h : k = 2
  ·exact .inr (.inr ⟨rfl, by show (k != 2) = false; rw [h]; rfl, if_pos h⟩)
  ·exact .inr (.inl ⟨rfl, by show (k != 2) = true; simpa using h, if_neg h⟩)
 | found => exact .inr (.inr ⟨rfl, rfl, rfl⟩)
theorem FnField_small (w : World) (ln mn pn lcap mcap pcap : Nat) (la ma pa : Option Addr) (kz : Nat) (big : Bool) (h : 100 < ln ∨ 100 < mn ∨ 100 < pn) :
  Calls Tryz.prog 3 #[.slice la ln lcap, .slice ma mn mcap, .slice pa pn pcap, .int .u8 kz, .bool big] w fun e w' => e = .returned (.bool true) ∧ Below w.heap.size w w' := by
 by_cases b1 : (2147483647 : Int) < ln
 ·go_enter Tryz.func3, Tryz.ntmps3
  go_wp2_with fail
  go_ret
  exact ⟨rfl, Below.refl _ _⟩
 by_cases b2 : (2147483647 : Int) < mn
 ·go_enter Tryz.func3, Tryz.ntmps3
  go_wp2_with fail
  go_ret
  exact ⟨rfl, Below.refl _ _⟩
 by_cases b3 : (2147483647 : Int) < pn
 ·go_enter Tryz.func3, Tryz.ntmps3
  go_wp2_with fail
  go_ret
  exact ⟨rfl, Below.refl _ _⟩
 by_cases b4 : (100 : Int) < ln
 ·go_enter Tryz.func3, Tryz.ntmps3
  go_wp2_with fail
  go_ret
  exact ⟨rfl, Below.refl _ _⟩
 by_cases b5 : (100 : Int) < mn
 ·go_enter Tryz.func3, Tryz.ntmps3
  go_wp2_with fail
  go_ret
  exact ⟨rfl, Below.refl _ _⟩
 have b6 : (100 : Int) < pn := by omega
 clear h
 go_enter Tryz.func3, Tryz.ntmps3
 go_wp2_with fail
 go_ret
 exact ⟨rfl, Below.refl _ _⟩
theorem FnField_of (put_any : ∀ t, PutC t) (w : World) (ln mn pn lcap pcap : Nat) (la pa : Option Addr) (mv : Value) (kz : Nat) (big : Bool) (hl : U32s w (.slice la ln lcap) ln) (hm : U32s w mv mn) (hp : U8s w (.slice pa pn pcap) pn) (hlc : ln ≤ lcap) (hkz : kz < 256)
  {a : Nat → Addr} (six : Six w a) (se : SixE w a) :
  Calls Tryz.prog 3 #[.slice la ln lcap, mv, .slice pa pn pcap, .int .u8 kz, .bool big] w fun e w' => e = .returned (.bool true) ∧ Below w.heap.size w w' := by
 have Hm := Lib.hid hm
 have Hl := Lib.hid hl
 have Hp := Lib.hid hp
 have SIX := Lib.hid six
 have SE := Lib.hid se
 clear hl hp six se
 obtain ⟨ma, mcap, rfl, -⟩ := hm
 by_cases hbig : 100 < ln ∨ 100 < mn ∨ 100 < pn
 ·exact FnField_small w ln mn pn lcap mcap pcap la ma pa kz big hbig
 ·have h1 : ¬ (2147483647 : Int) < ln := by omega
  have h2 : ¬ (2147483647 : Int) < mn := by omega
  have h3 : ¬ (2147483647 : Int) < pn := by omega
  have h4 : ¬ (100 : Int) < ln := by omega
  have h5 : ¬ (100 : Int) < mn := by omega
  have h6 : ¬ (100 : Int) < pn := by omega
  have hmn : mn ≤ 100 := by omega
  obtain ⟨k, hmin, hk8, hkn⟩ : ∃ k : Nat, (if (8 : Int) < (ln : Int) then (8 : Int) else ln) = (k : Int) ∧ k ≤ 8 ∧ k ≤ ln := by
   by_cases h : (8 : Int) < (ln : Int)
   ·exact ⟨8, by rw [if_pos h]; rfl, by omega, by omega⟩
   ·exact ⟨ln, by rw [if_neg h], by omega, Nat.le_refl _⟩
  have hb1 : (0 : Int) ≤ k := by omega
  have hb2 : (k : Int) ≤ lcap := by omega
  obtain ⟨K, hK, hK5⟩ : ∃ K : Nat, (kz : Int) % 6 = (K : Int) ∧ K ≤ 5 := ⟨kz % 6, by omega, by omega⟩
  have hKi : (K : Int) ≤ 5 := by omega
  have hKj : (0 : Int) ≤ K := by omega
  clear hbig
  go_enter Tryz.func3, Tryz.ntmps3
  go_wp2_with fail
  refine (structN_one ⟨#[115]⟩ ⟨#[97, 98, 99, 100, 101, 102, 103, 104, 105, 106]⟩ (by decide) k hk8 _ w (Hl.out.prefixN k lcap hkn)).mono ?_
  rintro e w1 ⟨ab, ta, rfl, ra, hta, hb1'⟩
  go_wp2_with fail
  refine (Nam.turnedOf_any ab ⟨#[115]⟩ _ ta mn (.slice ma mn mcap) w1 (ra.weaken fun _ _ h => h.elim) hta letters_aj (by decide) (typeN_one structN_zero) hmn (Hm.out.old hb1')).mono ?_
  intro e w2 htu
  obtain ⟨tb, tt, rfl, rt, htt, hb2'⟩ := htu.fld
  have HTA := Lib.hid (hta.fld (by omega))
  have HTT := Lib.hid htt
  have RT' := Lib.hid rt
  have RC := Lib.hid ((ra.old hb2').weaken (D' := Nowhere) fun _ _ h => h.elim)
  have HB2 := Lib.hid (hb1'.trans (hb2'.mono hb1'.size))
  clear rt htt hta htu ra hb1' hb2'
  go_wp2_with fail
  refine (path_all RC.out HTA.out.1 (Hp.out.old HB2.out)).mono ?_
  rintro e w3 ⟨⟨g, L, cap, n0, p, rfl, hacc, hL, hcap, hg, hgl, hon⟩, hb3⟩
  have RT3 := Lib.hid (RT'.out.old hb3)
  have RC3 := Lib.hid (RC.out.old hb3)
  have HB3 := Lib.hid (HB2.out.trans (hb3.mono HB2.out.size))
  have ACC := Lib.hid hacc
  have HON := Lib.hid hon
  have hlen := hacc.1
  simp only [List.length_cons, Nat.add_zero] at hlen
  have hL0 : 0 < L := by omega
  clear RT' RC HB2 hacc hon hb3 hgl hlen
  go_upto_region 9 with fail
  go_cut [81] (fun s81 wx => Hid (∃ X, s81 = .bool X ∧ Below w3.heap.size w3 wx))
  case first =>
   have HE := Lib.hid (ends_any RC3.out HTA.out.1 ACC.out hL hg hcap HON.out)
   go_wp2_with fail
   refine HE.out.mono ?_
   rintro e w4 ⟨B, rfl, hb4⟩
   cases B with
   | false =>
    go_wp2_with fail
    go_meet
    exact Lib.hid ⟨_, rfl, hb4⟩
   | true =>
    go_wp2_with fail
    go_meet
    exact Lib.hid ⟨_, rfl, hb4⟩
  case rest =>
  obtain ⟨X, rfl, hb4⟩ := hcut.out
  obtain ⟨w4, rfl⟩ : ∃ w4 : World, w4 = wc := ⟨_, rfl⟩
  have RT4 := Lib.hid (RT3.out.old hb4)
  have RC4 := Lib.hid (RC3.out.old hb4)
  have HB4 := Lib.hid (HB3.out.trans (hb4.mono HB3.out.size))
  have ACC4 := Lib.hid (ACC.out.below hg hb4)
  have hg4 := Nat.lt_of_lt_of_le hg hb4.size
  clear RT3 RC3 HB3 ACC hb4 HON hcut
  cases X with
  | true =>
   go_wp2_with fail
   go_ret
   exact ⟨rfl, HB4.out⟩
  | false =>
  obtain ⟨R, hR⟩ : ∃ R, R = fieldGo p ⟨ta, n0 * ta.bytes, 0, 0, tt, n0 * tt.bytes, 0, 0⟩ := ⟨_, rfl⟩
  have HR := Lib.hid hR
  go_wp2_with fail
  refine (fieldOf_any RC4.out RT4.out HTA.out.1 HTT.out.1 HTA.out.2.1 HTT.out.2.1 ACC4.out hL hg4 hcap).mono ?_
  rw [← hR]
  clear hR
  rintro e w5 ⟨fp, fq, rfl, rfa, rfb, oka, okb, hb5⟩
  unfold fldV
  have RFB := Lib.hid rfb
  have OKA := Lib.hid oka
  have OKB := Lib.hid okb
  clear oka okb rfa rfb
  go_upto_region 12 with fail
  refine wp_world (fun w' => Hid (TwoF w5 w5.heap.size (w5.heap.size + 1) fp fq R.1 w')) (Lib.hid (TwoF.new w5 fp fq R.1)) (fun w6 ST => ?_)
  obtain ⟨fb, hfb⟩ : ∃ z, z = w5.heap.size + 1 := ⟨_, rfl⟩
  obtain ⟨fa, hfa⟩ : ∃ z, z = w5.heap.size := ⟨_, rfl⟩
  rw [← hfb, ← hfa] at ST ⊢
  clear hfa hfb
  obtain ⟨b0, b1, b2, b3⟩ := ST.out.bb.four
  have lfb := ST.out.bb.lt
  obtain ⟨cd, hcd⟩ : ∃ cd : Int, cd = R.2.code := ⟨_, rfl⟩
  rw [← hcd]
  go_cut [106] (fun s106 wx => Hid (∃ X, s106 = .bool X ∧ (X = false → R.2 = .found → 3 < K → R.1.bb = 0 → R.1.b.bytes ≤ 8) ∧ Below w6.heap.size w6 wx))
  case first =>
   cases ho : R.2 with
   | wrong =>
    rw [ho] at hcd
    have hc0 : (cd == 0) = false := by rw [hcd]; rfl
    clear hcd
    go_wp2_with fail
    go_meet
    exact Lib.hid ⟨_, rfl, fun _ h => by (rw [ho] at h; cases h), Below.refl _ _⟩
   | poison =>
    rw [ho] at hcd
    have hc0 : (cd == 0) = false := by rw [hcd]; rfl
    clear hcd
    go_wp2_with fail
    go_meet
    exact Lib.hid ⟨_, rfl, fun _ h => by (rw [ho] at h; cases h), Below.refl _ _⟩
   | found =>
    rw [ho] at hcd
    obtain rfl : cd = 0 := hcd
    by_cases hk3 : 3 < K
    ·have hk3i : (3 : Int) < K := by omega
     by_cases hbb : R.1.bb = 0
     ·have hbbi : (R.1.bb : Int) = 0 := by omega
      have HBY := Lib.hid (bytes_any _ _ _ w6 (RFB.out.old (hb5.trans (ST.out.old.mono hb5.size))) OKB.out.flat.2)
      have hby2 : (R.1.b.bytes : Int) ≤ 200000 := by have := OKB.out.flat.1; omega
      by_cases hby : (8 : Int) < (R.1.b.bytes : Int)
      ·go_wp2_with fail
       refine HBY.out.mono ?_
       rintro e w7 ⟨rfl, nd, rfl⟩
       go_wp2_with fail
       go_meet
       exact Lib.hid ⟨_, rfl, fun h => by (cases h), below_drewN (Below.refl _ _) _⟩
      ·go_wp2_with fail
       refine HBY.out.mono ?_
       rintro e w7 ⟨rfl, nd, rfl⟩
       go_wp2_with fail
       go_meet
       exact Lib.hid ⟨_, rfl, fun _ _ _ _ => by omega, below_drewN (Below.refl _ _) _⟩
     ·have hbbi : ((R.1.bb : Int) == 0) = false := by rw [beq_eq_false_iff_ne]; omega
      go_wp2_with fail
      go_meet
      exact Lib.hid ⟨_, rfl, fun _ _ _ h => absurd h hbb, Below.refl _ _⟩
    ·have hk3i : ¬ (3 : Int) < K := by omega
     go_wp2_with fail
     go_meet
     exact Lib.hid ⟨_, rfl, fun _ _ h => absurd h hk3, Below.refl _ _⟩
  case rest =>
  obtain ⟨X, rfl, hX, hb7⟩ := hcut.out
  obtain ⟨w7, rfl⟩ : ∃ w7 : World, w7 = wc := ⟨_, rfl⟩
  have hb57 := hb5.trans ((ST.out.old.trans (hb7.mono ST.out.old.size)).mono hb5.size)
  have HB7 := Lib.hid (HB4.out.trans (hb57.mono HB4.out.size))
  have RT7 := Lib.hid (RT4.out.old hb57)
  have RC7 := Lib.hid (RC4.out.old hb57)
  have ACC7 := Lib.hid (ACC4.out.below hg4 hb57)
  have hg7 := Nat.lt_of_lt_of_le hg4 hb57.size
  clear hcut ST b0 b1 b2 b3 lfb hb7 hb57 hb5 RFB RT4 RC4 ACC4 hg4 HB4 OKB
  cases X with
  | true =>
   go_wp2_with fail
   go_ret
   exact ⟨rfl, HB7.out⟩
  | false =>
  have HX := Lib.hid (hX rfl)
  clear hX
  go_wp2_with fail
  refine (fieldOf_any RC7.out RT7.out HTA.out.1 HTT.out.1 HTA.out.2.1 HTT.out.2.1 ACC7.out hL hg7 hcap).mono ?_
  rw [← HR.out]
  rintro e w8 ⟨fp', fq', rfl, rfa, -, oka', -, hb8⟩
  unfold fldV
  have RFA := Lib.hid rfa
  clear rfa oka'
  go_upto_region 15 with fail
  refine wp_world (fun w' => Hid (TwoF w8 w8.heap.size (w8.heap.size + 1) fp' fq' R.1 w')) (Lib.hid (TwoF.new w8 fp' fq' R.1)) (fun w9 ST => ?_)
  obtain ⟨fb, hfb⟩ : ∃ z, z = w8.heap.size + 1 := ⟨_, rfl⟩
  obtain ⟨fa, hfa⟩ : ∃ z, z = w8.heap.size := ⟨_, rfl⟩
  rw [← hfb, ← hfa] at ST ⊢
  clear hfa hfb
  obtain ⟨a0, a1, a2, a3⟩ := ST.out.ba.four
  have lfa := ST.out.ba.lt
  go_cut [134] (fun s134 wx => Hid (∃ X, s134 = .bool X ∧ (X = false → K = 3 → HasSign R.1.a) ∧ Below w9.heap.size w9 wx))
  case first =>
   by_cases hk3 : K = 3
   ·subst hk3
    obtain ⟨b', rb', hB⟩ := behind_at (RFA.out.old (hb8.trans (ST.out.old.mono hb8.size)))
    have hkc := rb'.kindCell
    have lb' := rb'.lt
    have HB := Lib.hid hB
    clear hB rb'
    by_cases hk1 : R.1.a.behind.kind = 1
    ·have hk1i : (R.1.a.behind.kind : Int) = 1 := by omega
     rw [hk1i] at hkc
     go_wp2_with fail
     refine HB.out.mono ?_
     rintro e w10 ⟨rfl, rfl⟩
     go_wp2_with fail
     go_meet
     exact Lib.hid ⟨_, rfl, fun _ _ => kindSign (.inl hk1), Below.refl _ _⟩
    ·have hk1i : ((R.1.a.behind.kind : Int) == 1) = false := by rw [beq_eq_false_iff_ne]; omega
     by_cases hk6 : R.1.a.behind.kind = 6
     ·have hk6i : (R.1.a.behind.kind : Int) = 6 := by omega
      rw [hk6i] at hkc
      go_wp2_with fail
      refine HB.out.mono ?_
      rintro e w10 ⟨rfl, rfl⟩
      go_wp2_with fail
      refine HB.out.mono ?_
      rintro e w10 ⟨rfl, rfl⟩
      go_wp2_with fail
      go_meet
      exact Lib.hid ⟨_, rfl, fun _ _ => kindSign (.inr hk6), Below.refl _ _⟩
     ·have hk6i : ¬ (R.1.a.behind.kind : Int) = 6 := by omega
      have hk6j : ((R.1.a.behind.kind : Int) == 6) = false := by rw [beq_eq_false_iff_ne]; omega
      go_wp2_with fail
      refine HB.out.mono ?_
      rintro e w10 ⟨rfl, rfl⟩
      go_wp2_with fail
      refine HB.out.mono ?_
      rintro e w10 ⟨rfl, rfl⟩
      go_wp2_with fail
      go_meet
      exact Lib.hid ⟨_, rfl, fun h => absurd h (by simp only [bne, hk1i, hk6j]; decide), Below.refl _ _⟩
   ·have hk3i : ((K : Int) == 3) = false := by rw [beq_eq_false_iff_ne]; omega
    go_wp2_with fail
    go_meet
    exact Lib.hid ⟨_, rfl, fun _ h => absurd h hk3, Below.refl _ _⟩
  case rest =>
  obtain ⟨X, rfl, hX, hb10⟩ := hcut.out
  obtain ⟨w10, rfl⟩ : ∃ w10 : World, w10 = wc := ⟨_, rfl⟩
  have hb810 := hb8.trans ((ST.out.old.trans (hb10.mono ST.out.old.size)).mono hb8.size)
  have HB10 := Lib.hid (HB7.out.trans (hb810.mono HB7.out.size))
  have RT10 := Lib.hid (RT7.out.old hb810)
  have RC10 := Lib.hid (RC7.out.old hb810)
  have ACC10 := Lib.hid (ACC7.out.below hg7 hb810)
  have hg10 := Nat.lt_of_lt_of_le hg7 hb810.size
  clear hcut ST a0 a1 a2 a3 lfa hb10 hb810 hb8 RFA RT7 RC7 ACC7 hg7 HB7 OKA
  cases X with
  | true =>
   go_wp2_with fail
   go_ret
   exact ⟨rfl, HB10.out⟩
  | false =>
  have HS := Lib.hid (hX rfl)
  clear hX
  have SIX10 := Lib.hid (SIX.out.below HB10.out)
  have SE10 := Lib.hid (SE.out.below HB10.out)
  have HPK : Hid (R.2 = .found → fieldGo p ⟨ta, n0 * ta.bytes, 0, 0, tt, n0 * tt.bytes, 0, 0⟩ = (R.1, .found)) := Lib.hid fun ho => by rw [← HR.out]; exact Prod.ext rfl ho
  have HSH : Hid (R.2 = .found → 3 < K → Shf R.1) := Lib.hid fun ho h3 => (fieldGo_from HTA.out.1 HTT.out.1 HTA.out.2.1 (HPK.out ho)).shf fun h0 => HX.out ho h3 h0
  have HBD : Hid (R.2 = .found → R.1.ao ≤ 61000000 ∧ R.1.bo ≤ 61000000) := Lib.hid fun ho => by
   have hx : ∀ x ∈ p, x ≤ 255 := fun x hm => by
    obtain ⟨j, hj⟩ := List.mem_iff_getElem?.1 hm
    exact (ACC10.out.2 (j + 1) x (by simpa using hj)).2
   have hn := (ACC10.out.2 0 n0 rfl).2
   have hlen := ACC10.out.1
   simp only [List.length_cons, Nat.add_zero] at hlen
   have h1 : n0 * ta.bytes ≤ 255 * 200000 := Nat.mul_le_mul hn HTA.out.1.flat.1
   have h2 : n0 * tt.bytes ≤ 255 * 200000 := Nat.mul_le_mul hn HTT.out.1.flat.1
   have := fieldGo_bnd p _ _ ⟨HTA.out.1, HTT.out.1, .inl HTA.out.2.1, fun _ => rfl, fun h => absurd rfl h⟩ rfl rfl hx (HPK.out ho)
   simp only at this
   omega
  clear HPK HX SIX SE
  go_wp2_with fail
  refine (listedT_of put_any ab ta w10 RC10.out HTA.out.2.2.1 (by have := HTA.out.2.2.2; omega)).mono ?_
  rintro e w11 ⟨v1, n1, i1, xs1, D1, f1, rfl, rows1, hf1, rt1, hi1, hn1, hb11⟩
  have e1 : ((i1 + 1 : Nat) : Int) = (i1 : Int) + 1 := by omega
  rw [e1]
  have RT11 := Lib.hid (RT10.out.old hb11)
  go_wp2_with fail
  refine (listedT_of put_any tb tt w11 RT11.out HTT.out.2.2.1 (by have := HTT.out.2.2.2; omega)).mono ?_
  rintro e w12 ⟨v2, n2, i2, xs2, D2, f2, rfl, rows2, hf2, rt2, hi2, hn2, hb12⟩
  have e2 : ((i2 + 1 : Nat) : Int) = (i2 : Int) + 1 := by omega
  rw [e2]
  obtain ⟨g1, cap1, rfl, hg1⟩ := own_form rows1.own (by omega)
  obtain ⟨g2, cap2, rfl, hg2⟩ := own_form rows2.own (by omega)
  have h1012 : Below w10.heap.size w10 w12 := hb11.trans (hb12.mono hb11.size)
  have ACC12 := Lib.hid (ACC10.out.below hg10 h1012)
  have hg12 := Nat.lt_of_lt_of_le hg10 h1012.size
  have RC12 := Lib.hid (RC10.out.old h1012)
  have RT12 := Lib.hid (RT11.out.old hb12)
  go_wp2_with fail
  refine (relo_any RC12.out RT12.out HTA.out.1 HTT.out.1 HTA.out.2.1 HTT.out.2.1 ACC12.out hL hg12 hcap HR.out hK5 HBD.out HSH.out).mono ?_
  rintro e w13 ⟨rfl, hb13⟩
  have h1113 : Below w11.heap.size w11 w13 := hb12.trans (hb13.mono hb12.size)
  have own1 := ownsRow_of rows1.own fun x _ hl => h1113.block x hl
  have own2 := ownsRow_of rows2.own fun x _ hl => hb13.block x hl
  have fits1 : ∀ i, i < n1 → FitsD w13 D1 xs1 n1 i (f1 i) := fun i hi => (hf1 i hi).kept h1113
  have fits2 : ∀ i, i < n2 → FitsD w13 D2 xs2 n2 i (f2 i) := fun i hi => (hf2 i hi).kept hb13
  have h1013 : Below w10.heap.size w10 w13 := hb11.trans (h1113.mono hb11.size)
  have HB13 := Lib.hid (HB10.out.trans (h1013.mono HB10.out.size))
  have ACC13 := ACC12.out.below hg12 hb13
  have hg13 := Nat.lt_of_lt_of_le hg12 hb13.size
  have SIX13 := Lib.hid (SIX10.out.below h1013)
  have SE13 := Lib.hid (SE10.out.below h1013)
  have HF1 := Lib.hid hf1
  have HF2 := Lib.hid hf2
  have hcalc : ∀ W og1 pt1 ob1 og2 pt2 ob2 ab' acap idn rs, Below w13.heap.size w13 W → Outs W n1 f1 og1 pt1 ob1 → Outs W n2 f2 og2 pt2 ob2 → Acc W ab' L (n0 :: p) 0 → ab' < W.heap.size → L ≤ acap →
    CalcX W (objAt pt1 ob1 i1) (.slice (some ⟨ab', 0, none⟩) L acap) K (.int .u32 idn) (objAt pt2 ob2 i2) rs big (fxK R K) (fxA R K) (fxB R K big) (fxP R K) (fxO R) := by
   intro W og1 pt1 ob1 og2 pt2 ob2 ab' acap idn rs hBW o1 o2 hac hab hcp
   exact fix_any (T := ⟨n1, n2, f1, f2, og1, og2, pt1, pt2, ob1, ob2⟩) ⟨⟨o1, o2, peels_of HF1.out, peels_of HF2.out⟩, refs_of HF1.out, refs_of HF2.out, (SIX13.out.below hBW).c4⟩ (SIX13.out.below hBW) (SE13.out.below hBW) rt1 rt2 hi1 hi2 HTA.out.1 HTT.out.1 HTA.out.2.1 HTT.out.2.1 hac hL hab hcp hK5 HR.out HSH.out (fun _ h => HS.out h)
  have HC := Lib.hid (relocatedX_any w13 n1 cap1 g1 i1 n2 cap2 g2 i2 g L cap (n0 :: p) xs1 xs2 D1 D2 f1 f2 K (fxK R K) (fxA R K) (fxB R K big) (fxP R K) (fxO R) big own1 (by have := HTA.out.2.2.2; omega) fits1 hi1 own2 (by have := HTT.out.2.2.2; omega) fits2 hi2 ACC13 hg13 hL hL0 (by omega) (by omega) hcalc)
  clear hcalc own1 own2 fits1 fits2 ACC13 hg13 rows1 rows2 hf1 hf2 hb11 hb12 hb13 h1113 h1012 h1013 ACC12 hg12 RC12 RT12 RC10 RT10 RT11 ACC10 hg10 rt1 rt2
  go_wp2_with fail
  refine HC.out.mono ?_
  rintro e w14 ⟨rfl, hb14⟩
  have HB14 := Lib.hid (HB13.out.trans (hb14.mono HB13.out.size))
  clear hb14
  rcases rest_three (R := R) (k := K) with ⟨x1, x2⟩ | ⟨x1, x2, x3⟩ | ⟨x1, x2, x3⟩
  all_goals
   go_wp2_with fail
   go_ret
   exact ⟨rfl, HB14.out⟩
end Go.Proofs.YtfilbgmbmlmdbaaGreatDoor
