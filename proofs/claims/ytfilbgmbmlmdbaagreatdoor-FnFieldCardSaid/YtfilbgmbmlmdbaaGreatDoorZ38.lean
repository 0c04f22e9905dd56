/- The package's search for a field by an accessor: the walk. Nothing is claimed here. -/
import Derived.Test.YtfilbgmbmlmdbaaGreatDoorZ27
import Derived.Test.YtfilbgmbmlmdbaaGreatDoorZ28
import Derived.Test.YtfilbgmbmlmdbaaGreatDoorZ29
import Derived.Test.YtfilbgmbmlmdbaaGreatDoorZ30
import Derived.Test.YtfilbgmbmlmdbaaGreatDoorZ31
import Derived.Test.YtfilbgmbmlmdbaaGreatDoorZ32
import Derived.Test.YtfilbgmbmlmdbaaGreatDoorZ33
import Derived.Test.YtfilbgmbmlmdbaaGreatDoorZ34
import Derived.Test.YtfilbgmbmlmdbaaGreatDoorZ35
import Derived.Test.YtfilbgmbmlmdbaaGreatDoorZ36
import Derived.Test.YtfilbgmbmlmdbaaGreatDoorZ37
set_option linter.unusedSimpArgs false
set_option linter.unusedVariables false
set_option maxRecDepth 1000000
set_option maxHeartbeats 16000000
namespace Go.Proofs.YtfilbgmbmlmdbaaGreatDoor
open Go.RowKit Go.MapKept
theorem findField_any {T : Two} {W : World} {a5 : Addr} {v5 : Value} {i0 j0 g L cap : Nat} {t u : Ty} {n0 : Nat} {p : List Nat} (pk : Pkg T W a5) (s5 : W.cell? ⟨6, 0, none⟩ = some v5) (o5 : OtherErr a5 W v5) (la : a5.block < W.heap.size) (r1 : RT T.f1 i0 t) (r2 : RT T.f2 j0 u) (hi0 : i0 < T.n1) (hj0 : j0 < T.n2) (ok1 : FOk t) (ok2 : FOk u) (hc1 : isC t = true) (hc2 : isC u = true) (hacc : Acc W g L (n0 :: p) 0) (hL : L ≤ 5) (hg : g < W.heap.size) (hcap : L ≤ cap) :
  Calls Tryz.prog 62 #[objAt T.pt1 T.ob1 i0, .slice (some ⟨g, 0, none⟩) L cap, objAt T.pt2 T.ob2 j0] W (KRes T W a5 (fieldGo p ⟨t, n0 * t.bytes, 0, 0, u, n0 * u.bytes, 0, 0⟩)) := by
 obtain ⟨R, hR⟩ : ∃ R, R = fieldGo p ⟨t, n0 * t.bytes, 0, 0, u, n0 * u.bytes, 0, 0⟩ := ⟨_, rfl⟩
 rw [← hR]
 have hn0 := hacc.2 0 n0 rfl
 have hlen := hacc.1
 simp only [List.length_cons, Nat.add_zero] at hlen
 have hL0 : 0 < L := by omega
 have hcf : cmpF t u = true := cmpF_comp (by
  cases t with
  | comp => cases u with
   | comp => exact Bool.and_eq_true_iff.2 ⟨hc1, hc2⟩
   | _ => cases hc2
  | _ => cases hc1)
 have hy1 := ok1.flat.1
 have hy2 := ok2.flat.1
 have HPK := Lib.hid pk
 have HS5 := Lib.hid s5
 have HO5 := Lib.hid o5
 have HLA := Lib.hid la
 have HACC := Lib.hid hacc
 have HR1 := Lib.hid r1
 have HR2 := Lib.hid r2
 have HI0 := Lib.hid hi0
 have HJ0 := Lib.hid hj0
 have HOK1 := Lib.hid ok1
 have HOK2 := Lib.hid ok2
 have HRR := Lib.hid hR
 have HCF := Lib.hid hcf
 obtain ⟨hn0c, hn0b⟩ := hn0
 clear hacc r1 r2 ok1 ok2 hR hc1 hc2 pk s5 o5 la hi0 hj0 hcf
 go_enter Tryz.func62, Tryz.ntmps62
 go_upto_region 3 with fail
 obtain ⟨z6, h6⟩ : ∃ z, z = W.heap.size := ⟨_, rfl⟩
 obtain ⟨z7, h7⟩ : ∃ z, z = W.heap.size + 1 := ⟨_, rfl⟩
 obtain ⟨ra, ha⟩ : ∃ z, z = W.heap.size + 1 + 1 := ⟨_, rfl⟩
 obtain ⟨rb, hrb⟩ : ∃ z, z = W.heap.size + 1 + 1 + 1 := ⟨_, rfl⟩
 rw [← hrb, ← ha, ← h7, ← h6]
 refine wp_world (fun w' => Hid (KSt T W z6 z7 ra rb i0 j0 0 ⟨t, 0, 0, 0, u, 0, 0, 0⟩ w')) ?_ (fun w1 ST => ?_)
 ·subst h6 h7 ha hrb
  exact Lib.hid ⟨(((Blk.new _ _ _).alloc _).alloc _).alloc _, ((Blk.newAt _ _ _ (by simp)).alloc _).alloc _, (Blk.newAt _ _ _ (by simp)).alloc _, Blk.newAt _ _ _ (by simp), ((((Below.refl _ _).alloc (Nat.le_refl _) _).alloc (by simp) _).alloc (by simp; omega) _).alloc (by simp; omega) _, HR1.out, HR2.out, HI0.out, HJ0.out, HOK1.out, HOK2.out, Nat.le_refl _, Nat.le_refl _⟩
 have DD : Dst W z6 z7 ra rb := ⟨by omega, by omega, by omega, by omega, by omega, by omega, by omega, by omega, by omega, by omega⟩
 have HD := Lib.hid DD
 obtain ⟨F6a, F6b, F7a, F7b⟩ := DD.far
 clear DD h6 h7 ha hrb
 have PK1 := HPK.out.ck (CellsKept.below ST.out.old)
 have hcp := pcompat_any PK1 HOK1.out HOK2.out HR1.out HR2.out HI0.out HJ0.out
 rw [if_pos HCF.out] at hcp
 have HCP := Lib.hid hcp
 clear hcp PK1
 obtain ⟨ea0, ea1, ea2, ea3⟩ := ST.out.ba.four
 obtain ⟨eb0, eb1, eb2, eb3⟩ := ST.out.bb.four
 have xal := ST.out.ba.lt
 have xbl := ST.out.bb.lt
 go_wp2_with fail
 refine HCP.out.mono ?_
 rintro e w2 ⟨rfl, nd, hw2⟩
 have ST2 : Hid (KSt T W z6 z7 ra rb i0 j0 0 ⟨t, 0, 0, 0, u, 0, 0, 0⟩ w2) := Lib.hid (ST.out.below (by rw [hw2]; exact below_drewN (Below.refl _ _) _) (Nat.le_refl _))
 clear hw2 ST HCP ea0 ea1 ea2 ea3 eb0 eb1 eb2 eb3 xal xbl
 have c0 := (ST2.out.old.cell (p := ⟨g, 0, none⟩) hg).trans hn0c
 have gl := Nat.lt_of_lt_of_le hg ST2.out.old.size
 have PK2 := HPK.out.ck (CellsKept.below ST2.out.old)
 have hb1 : n0 * t.bytes ≤ 255 * 200000 := Nat.mul_le_mul hn0b hy1
 have hb2 : n0 * u.bytes ≤ 255 * 200000 := Nat.mul_le_mul hn0b hy2
 have HBB := Lib.hid (And.intro hb1 hb2)
 have HADA := Lib.hid (adjustN_any (n := n0) (o := 0) ST2.out.ba (size_fok PK2.i.h1 HOK1.out HR1.out HI0.out PK2.r1) hn0b hy1 (by decide))
 clear PK2 hb1 hb2
 go_wp2_with fail
 refine HADA.out.mono ?_
 rintro e w3 ⟨rfl, hb3, hm3⟩
 rw [Nat.zero_add] at hb3
 have ST3 : Hid (KSt T W z6 z7 ra rb i0 j0 60000000 ⟨t, n0 * t.bytes, 0, 0, u, 0, 0, 0⟩ w3) := Lib.hid (ST2.out.butA HD.out hb3 hm3 rfl rfl rfl rfl rfl ⟨by have := HBB.out.1; (try dsimp only) <;> omega, Nat.zero_le _⟩)
 clear hb3 hm3 HADA ST2 c0 gl
 have c0 := (ST3.out.old.cell (p := ⟨g, 0, none⟩) hg).trans hn0c
 have gl := Nat.lt_of_lt_of_le hg ST3.out.old.size
 have PK3 := HPK.out.ck (CellsKept.below ST3.out.old)
 have HADB := Lib.hid (adjustN_any (n := n0) (o := 0) ST3.out.bb (size_fok PK3.i.h2 HOK2.out HR2.out HJ0.out PK3.r2) hn0b hy2 (by decide))
 clear PK3
 go_wp2_with fail
 refine HADB.out.mono ?_
 rintro e w4 ⟨rfl, hb4, hm4⟩
 rw [Nat.zero_add] at hb4
 have ST4 : Hid (KSt T W z6 z7 ra rb i0 j0 60000000 ⟨t, n0 * t.bytes, 0, 0, u, n0 * u.bytes, 0, 0⟩ w4) := Lib.hid (ST3.out.butB HD.out hb4 hm4 rfl rfl rfl rfl rfl ⟨ST3.out.bnd.1, by have := HBB.out.2; (try dsimp only) <;> omega⟩)
 have HACC1 := Lib.hid HACC.out.tail
 clear hb4 hm4 HADB ST3 c0 gl HBB HCF
 clear HACC HR1 HR2 HOK1 HOK2 HI0 HJ0 hn0c hn0b hy1 hy2
 have hLp : (1 : Int) ≤ L := by omega
 cases hp0 : p with
 | nil =>
  subst hp0
  obtain ⟨s0, hs0⟩ : ∃ s0 : FS, s0 = ⟨t, n0 * t.bytes, 0, 0, u, n0 * u.bytes, 0, 0⟩ := ⟨_, rfl⟩
  rw [← hs0] at ST4 HRR
  clear hs0
  obtain ⟨ta, ao, ab, af, tb, bo, bbi, bf⟩ := s0
  have HRES : Hid (R = (⟨ta, ao, ab, af, tb, bo, bbi, bf⟩, .found)) := HRR
  obtain rfl : L = 1 := by rw [← hlen]; rfl
  clear hlen hL hL0 hLp HACC1
  by_cases hc1 : cap = 1
  ·subst hc1
   go_wp2_with fail
   go_loopg [73] 0 (fun gk s73 wr => s73 = .int .i64 0 ∧ wr = w4)
   case atStart => exact ⟨rfl, rfl⟩
   case round =>
    obtain ⟨rfl, rfl⟩ := hrel
    have k60 := ST4.out.b6.free 0
    have k61 := ST4.out.b6.free 1
    have k62 := ST4.out.b6.free 2
    have k63 := ST4.out.b6.free 3
    have k70 := ST4.out.b7.free 0
    have k71 := ST4.out.b7.free 1
    have k72 := ST4.out.b7.free 2
    have k73 := ST4.out.b7.free 3
    have k6l := ST4.out.b6.lt
    have k7l := ST4.out.b7.lt
    obtain ⟨z60, z61, z62, z63⟩ := ST4.out.b6.four
    obtain ⟨z70, z71, z72, z73⟩ := ST4.out.b7.four
    have d67 := HD.out.d67
    have d76 := HD.out.d67.symm
    obtain ⟨ea0, ea1, ea2, ea3⟩ := ST4.out.ba.four
    obtain ⟨eb0, eb1, eb2, eb3⟩ := ST4.out.bb.four
    have xal := ST4.out.ba.lt
    have xbl := ST4.out.bb.lt
    have f6a := F6a.out
    have f6b := F6b.out
    have f7a := F7a.out
    have f7b := F7b.out
    go_upto_region 80 with fail
    apply wp_meet0 (fun w' => Hid (KEnd W z6 z7 (cfC (objAt T.pt1 T.ob1 i0) (ao : Nat) (af : Nat) (ab : Nat)) (cfC (objAt T.pt2 T.ob2 j0) (bo : Nat) (bf : Nat) (bbi : Nat)) w'))
    case h1 =>
     refine AnyR.start (wr := [3, 2]) (rd := (fun cls => match cls with | 0 => [0, 1] | 1 => [4] | _ + 2 => [])) (Sf := (fun cls w' => match cls with | 0 => w'.cell? ⟨ra, 0, none⟩ = some (objAt T.pt1 T.ob1 i0) ∧ w'.cell? ⟨ra, 1, none⟩ = some (.int .u32 (ao : Nat)) ∧ w'.cell? ⟨ra, 2, none⟩ = some (.int .u32 (af : Nat)) ∧ w'.cell? ⟨ra, 3, none⟩ = some (.int .u32 (ab : Nat)) ∧ w'.cell? ⟨rb, 0, none⟩ = some (objAt T.pt2 T.ob2 j0) ∧ w'.cell? ⟨rb, 1, none⟩ = some (.int .u32 (bo : Nat)) ∧ w'.cell? ⟨rb, 2, none⟩ = some (.int .u32 (bf : Nat)) ∧ w'.cell? ⟨rb, 3, none⟩ = some (.int .u32 (bbi : Nat)) | 1 => True | _ + 2 => True)) (by as_aux_lemma => kernel_rfl) (fun cls => match cls with | 0 => ⟨ea0, ea1, ea2, ea3, eb0, eb1, eb2, eb3⟩ | 1 => trivial | _ + 2 => trivial) (fun hHeld => ?_)
     refine AnyR.tk (i := 0) 0 (v := ?_) rfl (by as_aux_lemma => kernel_rfl) (fun _ _ _ h => h) hHeld (by rfl) ?_ ?_
     rotate_left
     focus (intro w hSw0; have hSw : (fun w' : World => w'.cell? ⟨ra, 0, none⟩ = some (objAt T.pt1 T.ob1 i0) ∧ w'.cell? ⟨ra, 1, none⟩ = some (.int .u32 (ao : Nat)) ∧ w'.cell? ⟨ra, 2, none⟩ = some (.int .u32 (af : Nat)) ∧ w'.cell? ⟨ra, 3, none⟩ = some (.int .u32 (ab : Nat)) ∧ w'.cell? ⟨rb, 0, none⟩ = some (objAt T.pt2 T.ob2 j0) ∧ w'.cell? ⟨rb, 1, none⟩ = some (.int .u32 (bo : Nat)) ∧ w'.cell? ⟨rb, 2, none⟩ = some (.int .u32 (bf : Nat)) ∧ w'.cell? ⟨rb, 3, none⟩ = some (.int .u32 (bbi : Nat))) w := hSw0; clear hSw0; (try dsimp only at hSw); go_simp <;> with_reducible rfl)
     clear hHeld
     intro hHeld
     try simp only [Act.put, zl1, zl2, zl3, zl4, zl5, zl6]
     refine AnyR.tk (i := 1) 0 (v := ?_) rfl (by as_aux_lemma => kernel_rfl) (fun _ _ _ h => h) hHeld (by rfl) ?_ ?_
     rotate_left
     focus (intro w hSw0; have hSw : (fun w' : World => w'.cell? ⟨ra, 0, none⟩ = some (objAt T.pt1 T.ob1 i0) ∧ w'.cell? ⟨ra, 1, none⟩ = some (.int .u32 (ao : Nat)) ∧ w'.cell? ⟨ra, 2, none⟩ = some (.int .u32 (af : Nat)) ∧ w'.cell? ⟨ra, 3, none⟩ = some (.int .u32 (ab : Nat)) ∧ w'.cell? ⟨rb, 0, none⟩ = some (objAt T.pt2 T.ob2 j0) ∧ w'.cell? ⟨rb, 1, none⟩ = some (.int .u32 (bo : Nat)) ∧ w'.cell? ⟨rb, 2, none⟩ = some (.int .u32 (bf : Nat)) ∧ w'.cell? ⟨rb, 3, none⟩ = some (.int .u32 (bbi : Nat))) w := hSw0; clear hSw0; (try dsimp only at hSw); go_simp <;> with_reducible rfl)
     clear hHeld
     intro hHeld
     try simp only [Act.put, zl1, zl2, zl3, zl4, zl5, zl6]
     refine AnyR.one (i := 2) (by as_aux_lemma => kernel_rfl) rfl (fun K hK => ?_)
     go_simp
     refine hK.out _ _ (fun cls => match cls with | 0 => .inr (by simp only [World.cell?_drew, f6a, f6b, f7a, f7b, ea0, ea1, ea2, ea3, eb0, eb1, eb2, eb3, and_self]) | 1 => .inr trivial | _ + 2 => .inr trivial) (fun hHeld => ?_)
     clear hK K
     try simp only [Act.put, zl1, zl2, zl3, zl4, zl5, zl6]
     refine AnyR.one (i := 3) (by as_aux_lemma => kernel_rfl) rfl (fun K hK => ?_)
     go_simp
     refine hK.out _ _ (fun cls => match cls with | 0 => .inr (by simp only [World.cell?_drew, f6a, f6b, f7a, f7b, ea0, ea1, ea2, ea3, eb0, eb1, eb2, eb3, and_self]) | 1 => .inr trivial | _ + 2 => .inr trivial) (fun hHeld => ?_)
     clear hK K
     try simp only [Act.put, zl1, zl2, zl3, zl4, zl5, zl6]
     refine AnyR.tk (i := 4) 1 (v := ?_) rfl (by as_aux_lemma => kernel_rfl) (fun _ _ _ h => h) hHeld (by rfl) ?_ ?_
     rotate_left
     focus (intro w h; clear h; go_simp <;> with_reducible rfl)
     clear hHeld
     intro hHeld
     try simp only [Act.put, zl1, zl2, zl3, zl4, zl5, zl6]
     refine AnyR.end_ (by as_aux_lemma => kernel_rfl) ?_
     exact ⟨Lib.hid (KEnd.drew (ST4.out.gives HD.out _ _ _ _ _ _ _ _)), rfl⟩
    case h2 =>
     intro w4 PE
     clear ea0 ea1 ea2 ea3 eb0 eb1 eb2 eb3 xal xbl f6a f6b f7a f7b k60 k61 k62 k63 k70 k71 k72 k73 k6l k7l z60 z61 z62 z63 z70 z71 z72 z73 d67 d76
     obtain ⟨y0, y1, y2, y3⟩ := PE.out.b6.four
     obtain ⟨x0, x1, x2, x3⟩ := PE.out.b7.four
     have yl := PE.out.b6.lt
     have xl := PE.out.b7.lt
     go_wp2_with fail
     refine bodyPost_ret (v := .tuple #[.agg (cfC (objAt T.pt1 T.ob1 i0) (ao : Nat) (af : Nat) (ab : Nat)), .agg (cfC (objAt T.pt2 T.ob2 j0) (bo : Nat) (bf : Nat) (bbi : Nat)), .nilIface]) ?_ rfl ⟨PE.out.old, by rw [HRES.out] <;> exact ⟨_, _, rfl, ST4.out.ta, ST4.out.tb, ST4.out.la, ST4.out.lb, ST4.out.oka, ST4.out.okb, Nat.le_trans ST4.out.bnd.1 (by omega), Nat.le_trans ST4.out.bnd.2 (by omega)⟩⟩
     rw [results_cct rfl]
     go_simp
  ·have hc2 : (2 : Int) ≤ cap := by omega
   have hc3 : ¬ (cap : Int) ≤ 1 := by omega
   go_wp2_with fail
   go_loopg [73] 0 (fun gk s73 wr => s73 = .int .i64 0 ∧ wr = w4)
   case atStart => exact ⟨rfl, rfl⟩
   case round =>
    obtain ⟨rfl, rfl⟩ := hrel
    have k60 := ST4.out.b6.free 0
    have k61 := ST4.out.b6.free 1
    have k62 := ST4.out.b6.free 2
    have k63 := ST4.out.b6.free 3
    have k70 := ST4.out.b7.free 0
    have k71 := ST4.out.b7.free 1
    have k72 := ST4.out.b7.free 2
    have k73 := ST4.out.b7.free 3
    have k6l := ST4.out.b6.lt
    have k7l := ST4.out.b7.lt
    obtain ⟨z60, z61, z62, z63⟩ := ST4.out.b6.four
    obtain ⟨z70, z71, z72, z73⟩ := ST4.out.b7.four
    have d67 := HD.out.d67
    have d76 := HD.out.d67.symm
    obtain ⟨ea0, ea1, ea2, ea3⟩ := ST4.out.ba.four
    obtain ⟨eb0, eb1, eb2, eb3⟩ := ST4.out.bb.four
    have xal := ST4.out.ba.lt
    have xbl := ST4.out.bb.lt
    have f6a := F6a.out
    have f6b := F6b.out
    have f7a := F7a.out
    have f7b := F7b.out
    go_upto_region 80 with fail
    apply wp_meet0 (fun w' => Hid (KEnd W z6 z7 (cfC (objAt T.pt1 T.ob1 i0) (ao : Nat) (af : Nat) (ab : Nat)) (cfC (objAt T.pt2 T.ob2 j0) (bo : Nat) (bf : Nat) (bbi : Nat)) w'))
    case h1 =>
     refine AnyR.start (wr := [3, 2]) (rd := (fun cls => match cls with | 0 => [0, 1] | 1 => [4] | _ + 2 => [])) (Sf := (fun cls w' => match cls with | 0 => w'.cell? ⟨ra, 0, none⟩ = some (objAt T.pt1 T.ob1 i0) ∧ w'.cell? ⟨ra, 1, none⟩ = some (.int .u32 (ao : Nat)) ∧ w'.cell? ⟨ra, 2, none⟩ = some (.int .u32 (af : Nat)) ∧ w'.cell? ⟨ra, 3, none⟩ = some (.int .u32 (ab : Nat)) ∧ w'.cell? ⟨rb, 0, none⟩ = some (objAt T.pt2 T.ob2 j0) ∧ w'.cell? ⟨rb, 1, none⟩ = some (.int .u32 (bo : Nat)) ∧ w'.cell? ⟨rb, 2, none⟩ = some (.int .u32 (bf : Nat)) ∧ w'.cell? ⟨rb, 3, none⟩ = some (.int .u32 (bbi : Nat)) | 1 => True | _ + 2 => True)) (by as_aux_lemma => kernel_rfl) (fun cls => match cls with | 0 => ⟨ea0, ea1, ea2, ea3, eb0, eb1, eb2, eb3⟩ | 1 => trivial | _ + 2 => trivial) (fun hHeld => ?_)
     refine AnyR.tk (i := 0) 0 (v := ?_) rfl (by as_aux_lemma => kernel_rfl) (fun _ _ _ h => h) hHeld (by rfl) ?_ ?_
     rotate_left
     focus (intro w hSw0; have hSw : (fun w' : World => w'.cell? ⟨ra, 0, none⟩ = some (objAt T.pt1 T.ob1 i0) ∧ w'.cell? ⟨ra, 1, none⟩ = some (.int .u32 (ao : Nat)) ∧ w'.cell? ⟨ra, 2, none⟩ = some (.int .u32 (af : Nat)) ∧ w'.cell? ⟨ra, 3, none⟩ = some (.int .u32 (ab : Nat)) ∧ w'.cell? ⟨rb, 0, none⟩ = some (objAt T.pt2 T.ob2 j0) ∧ w'.cell? ⟨rb, 1, none⟩ = some (.int .u32 (bo : Nat)) ∧ w'.cell? ⟨rb, 2, none⟩ = some (.int .u32 (bf : Nat)) ∧ w'.cell? ⟨rb, 3, none⟩ = some (.int .u32 (bbi : Nat))) w := hSw0; clear hSw0; (try dsimp only at hSw); go_simp <;> with_reducible rfl)
     clear hHeld
     intro hHeld
     try simp only [Act.put, zl1, zl2, zl3, zl4, zl5, zl6]
     refine AnyR.tk (i := 1) 0 (v := ?_) rfl (by as_aux_lemma => kernel_rfl) (fun _ _ _ h => h) hHeld (by rfl) ?_ ?_
     rotate_left
     focus (intro w hSw0; have hSw : (fun w' : World => w'.cell? ⟨ra, 0, none⟩ = some (objAt T.pt1 T.ob1 i0) ∧ w'.cell? ⟨ra, 1, none⟩ = some (.int .u32 (ao : Nat)) ∧ w'.cell? ⟨ra, 2, none⟩ = some (.int .u32 (af : Nat)) ∧ w'.cell? ⟨ra, 3, none⟩ = some (.int .u32 (ab : Nat)) ∧ w'.cell? ⟨rb, 0, none⟩ = some (objAt T.pt2 T.ob2 j0) ∧ w'.cell? ⟨rb, 1, none⟩ = some (.int .u32 (bo : Nat)) ∧ w'.cell? ⟨rb, 2, none⟩ = some (.int .u32 (bf : Nat)) ∧ w'.cell? ⟨rb, 3, none⟩ = some (.int .u32 (bbi : Nat))) w := hSw0; clear hSw0; (try dsimp only at hSw); go_simp <;> with_reducible rfl)
     clear hHeld
     intro hHeld
     try simp only [Act.put, zl1, zl2, zl3, zl4, zl5, zl6]
     refine AnyR.one (i := 2) (by as_aux_lemma => kernel_rfl) rfl (fun K hK => ?_)
     go_simp
     refine hK.out _ _ (fun cls => match cls with | 0 => .inr (by simp only [World.cell?_drew, f6a, f6b, f7a, f7b, ea0, ea1, ea2, ea3, eb0, eb1, eb2, eb3, and_self]) | 1 => .inr trivial | _ + 2 => .inr trivial) (fun hHeld => ?_)
     clear hK K
     try simp only [Act.put, zl1, zl2, zl3, zl4, zl5, zl6]
     refine AnyR.one (i := 3) (by as_aux_lemma => kernel_rfl) rfl (fun K hK => ?_)
     go_simp
     refine hK.out _ _ (fun cls => match cls with | 0 => .inr (by simp only [World.cell?_drew, f6a, f6b, f7a, f7b, ea0, ea1, ea2, ea3, eb0, eb1, eb2, eb3, and_self]) | 1 => .inr trivial | _ + 2 => .inr trivial) (fun hHeld => ?_)
     clear hK K
     try simp only [Act.put, zl1, zl2, zl3, zl4, zl5, zl6]
     refine AnyR.tk (i := 4) 1 (v := ?_) rfl (by as_aux_lemma => kernel_rfl) (fun _ _ _ h => h) hHeld (by rfl) ?_ ?_
     rotate_left
     focus (intro w h; clear h; go_simp <;> with_reducible rfl)
     clear hHeld
     intro hHeld
     try simp only [Act.put, zl1, zl2, zl3, zl4, zl5, zl6]
     refine AnyR.end_ (by as_aux_lemma => kernel_rfl) ?_
     exact ⟨Lib.hid (KEnd.drew (ST4.out.gives HD.out _ _ _ _ _ _ _ _)), rfl⟩
    case h2 =>
     intro w4 PE
     clear ea0 ea1 ea2 ea3 eb0 eb1 eb2 eb3 xal xbl f6a f6b f7a f7b k60 k61 k62 k63 k70 k71 k72 k73 k6l k7l z60 z61 z62 z63 z70 z71 z72 z73 d67 d76
     obtain ⟨y0, y1, y2, y3⟩ := PE.out.b6.four
     obtain ⟨x0, x1, x2, x3⟩ := PE.out.b7.four
     have yl := PE.out.b6.lt
     have xl := PE.out.b7.lt
     go_wp2_with fail
     refine bodyPost_ret (v := .tuple #[.agg (cfC (objAt T.pt1 T.ob1 i0) (ao : Nat) (af : Nat) (ab : Nat)), .agg (cfC (objAt T.pt2 T.ob2 j0) (bo : Nat) (bf : Nat) (bbi : Nat)), .nilIface]) ?_ rfl ⟨PE.out.old, by rw [HRES.out] <;> exact ⟨_, _, rfl, ST4.out.ta, ST4.out.tb, ST4.out.la, ST4.out.lb, ST4.out.oka, ST4.out.okb, Nat.le_trans ST4.out.bnd.1 (by omega), Nat.le_trans ST4.out.bnd.2 (by omega)⟩⟩
     rw [results_cct rfl]
     go_simp
 | cons p1 p2 =>
 have hL2 : 2 ≤ L := by rw [hp0, List.length_cons] at hlen; omega
 have hcapp : (L : Int) ≤ cap := by omega
 have hc2 : (2 : Int) ≤ cap := by omega
 clear hp0
 go_wp2_with fail
 go_loopg [14, 15, 73] p.length (fun gk s14 s15 s73 wr => ∃ (q : List Nat) (k : Nat) (s : FS) (ia ib : Nat) (oa ob : Bool), q.length + k = p.length ∧ q.length ≤ gk ∧ s73 = .int .i64 (k : Int) ∧ s14 = .bool oa ∧ s15 = .bool ob ∧ Hid (Acc W g L q (k + 1)) ∧ Hid (KSt T W z6 z7 ra rb ia ib (60000000 + k * 100000) s wr) ∧ Hid (R = fieldGo q s))
 case atStart => exact ⟨p, 0, _, i0, j0, false, false, rfl, Nat.le_refl _, rfl, rfl, rfl, HACC1, ST4, HRR⟩
 case round =>
  clear HACC1 ST4 HRR
  rename_i J K hJ hK
  obtain ⟨q, k, ⟨ta, ao, ab, af, tb, bo, bbi, bf⟩, ia, ib, oa, ob, hqk, hqg, rfl, rfl, rfl, HACC, ST, HRR⟩ := hrel
  cases q with
  | nil =>
   have HRES : Hid (R = (⟨ta, ao, ab, af, tb, bo, bbi, bf⟩, .found)) := HRR
   simp only [List.length_nil, Nat.zero_add] at hqk
   subst hqk
   have hpl : ((L : Int) - 1) = (p.length : Int) := by omega
   have k60 := ST.out.b6.free 0
   have k61 := ST.out.b6.free 1
   have k62 := ST.out.b6.free 2
   have k63 := ST.out.b6.free 3
   have k70 := ST.out.b7.free 0
   have k71 := ST.out.b7.free 1
   have k72 := ST.out.b7.free 2
   have k73 := ST.out.b7.free 3
   have k6l := ST.out.b6.lt
   have k7l := ST.out.b7.lt
   obtain ⟨z60, z61, z62, z63⟩ := ST.out.b6.four
   obtain ⟨z70, z71, z72, z73⟩ := ST.out.b7.four
   have d67 := HD.out.d67
   have d76 := HD.out.d67.symm
   obtain ⟨ea0, ea1, ea2, ea3⟩ := ST.out.ba.four
   obtain ⟨eb0, eb1, eb2, eb3⟩ := ST.out.bb.four
   have xal := ST.out.ba.lt
   have xbl := ST.out.bb.lt
   have f6a := F6a.out
   have f6b := F6b.out
   have f7a := F7a.out
   have f7b := F7b.out
   go_upto_region 80 with fail
   apply wp_meet0 (fun w' => Hid (KEnd W z6 z7 (cfC (objAt T.pt1 T.ob1 ia) (ao : Nat) (af : Nat) (ab : Nat)) (cfC (objAt T.pt2 T.ob2 ib) (bo : Nat) (bf : Nat) (bbi : Nat)) w'))
   case h1 =>
    refine AnyR.start (wr := [3, 2]) (rd := (fun cls => match cls with | 0 => [0, 1] | 1 => [4] | _ + 2 => [])) (Sf := (fun cls w' => match cls with | 0 => w'.cell? ⟨ra, 0, none⟩ = some (objAt T.pt1 T.ob1 ia) ∧ w'.cell? ⟨ra, 1, none⟩ = some (.int .u32 (ao : Nat)) ∧ w'.cell? ⟨ra, 2, none⟩ = some (.int .u32 (af : Nat)) ∧ w'.cell? ⟨ra, 3, none⟩ = some (.int .u32 (ab : Nat)) ∧ w'.cell? ⟨rb, 0, none⟩ = some (objAt T.pt2 T.ob2 ib) ∧ w'.cell? ⟨rb, 1, none⟩ = some (.int .u32 (bo : Nat)) ∧ w'.cell? ⟨rb, 2, none⟩ = some (.int .u32 (bf : Nat)) ∧ w'.cell? ⟨rb, 3, none⟩ = some (.int .u32 (bbi : Nat)) | 1 => True | _ + 2 => True)) (by as_aux_lemma => kernel_rfl) (fun cls => match cls with | 0 => ⟨ea0, ea1, ea2, ea3, eb0, eb1, eb2, eb3⟩ | 1 => trivial | _ + 2 => trivial) (fun hHeld => ?_)
    refine AnyR.tk (i := 0) 0 (v := ?_) rfl (by as_aux_lemma => kernel_rfl) (fun _ _ _ h => h) hHeld (by rfl) ?_ ?_
    rotate_left
    focus (intro w hSw0; have hSw : (fun w' : World => w'.cell? ⟨ra, 0, none⟩ = some (objAt T.pt1 T.ob1 ia) ∧ w'.cell? ⟨ra, 1, none⟩ = some (.int .u32 (ao : Nat)) ∧ w'.cell? ⟨ra, 2, none⟩ = some (.int .u32 (af : Nat)) ∧ w'.cell? ⟨ra, 3, none⟩ = some (.int .u32 (ab : Nat)) ∧ w'.cell? ⟨rb, 0, none⟩ = some (objAt T.pt2 T.ob2 ib) ∧ w'.cell? ⟨rb, 1, none⟩ = some (.int .u32 (bo : Nat)) ∧ w'.cell? ⟨rb, 2, none⟩ = some (.int .u32 (bf : Nat)) ∧ w'.cell? ⟨rb, 3, none⟩ = some (.int .u32 (bbi : Nat))) w := hSw0; clear hSw0; (try dsimp only at hSw); go_simp <;> with_reducible rfl)
    clear hHeld
    intro hHeld
    try simp only [Act.put, zl1, zl2, zl3, zl4, zl5, zl6]
    refine AnyR.tk (i := 1) 0 (v := ?_) rfl (by as_aux_lemma => kernel_rfl) (fun _ _ _ h => h) hHeld (by rfl) ?_ ?_
    rotate_left
    focus (intro w hSw0; have hSw : (fun w' : World => w'.cell? ⟨ra, 0, none⟩ = some (objAt T.pt1 T.ob1 ia) ∧ w'.cell? ⟨ra, 1, none⟩ = some (.int .u32 (ao : Nat)) ∧ w'.cell? ⟨ra, 2, none⟩ = some (.int .u32 (af : Nat)) ∧ w'.cell? ⟨ra, 3, none⟩ = some (.int .u32 (ab : Nat)) ∧ w'.cell? ⟨rb, 0, none⟩ = some (objAt T.pt2 T.ob2 ib) ∧ w'.cell? ⟨rb, 1, none⟩ = some (.int .u32 (bo : Nat)) ∧ w'.cell? ⟨rb, 2, none⟩ = some (.int .u32 (bf : Nat)) ∧ w'.cell? ⟨rb, 3, none⟩ = some (.int .u32 (bbi : Nat))) w := hSw0; clear hSw0; (try dsimp only at hSw); go_simp <;> with_reducible rfl)
    clear hHeld
    intro hHeld
    try simp only [Act.put, zl1, zl2, zl3, zl4, zl5, zl6]
    refine AnyR.one (i := 2) (by as_aux_lemma => kernel_rfl) rfl (fun K hK => ?_)
    go_simp
    refine hK.out _ _ (fun cls => match cls with | 0 => .inr (by simp only [World.cell?_drew, f6a, f6b, f7a, f7b, ea0, ea1, ea2, ea3, eb0, eb1, eb2, eb3, and_self]) | 1 => .inr trivial | _ + 2 => .inr trivial) (fun hHeld => ?_)
    clear hK K
    try simp only [Act.put, zl1, zl2, zl3, zl4, zl5, zl6]
    refine AnyR.one (i := 3) (by as_aux_lemma => kernel_rfl) rfl (fun K hK => ?_)
    go_simp
    refine hK.out _ _ (fun cls => match cls with | 0 => .inr (by simp only [World.cell?_drew, f6a, f6b, f7a, f7b, ea0, ea1, ea2, ea3, eb0, eb1, eb2, eb3, and_self]) | 1 => .inr trivial | _ + 2 => .inr trivial) (fun hHeld => ?_)
    clear hK K
    try simp only [Act.put, zl1, zl2, zl3, zl4, zl5, zl6]
    refine AnyR.tk (i := 4) 1 (v := ?_) rfl (by as_aux_lemma => kernel_rfl) (fun _ _ _ h => h) hHeld (by rfl) ?_ ?_
    rotate_left
    focus (intro w h; clear h; go_simp <;> with_reducible rfl)
    clear hHeld
    intro hHeld
    try simp only [Act.put, zl1, zl2, zl3, zl4, zl5, zl6]
    refine AnyR.end_ (by as_aux_lemma => kernel_rfl) ?_
    exact ⟨Lib.hid (KEnd.drew (ST.out.gives HD.out _ _ _ _ _ _ _ _)), rfl⟩
   case h2 =>
    intro w4 PE
    clear ea0 ea1 ea2 ea3 eb0 eb1 eb2 eb3 xal xbl f6a f6b f7a f7b k60 k61 k62 k63 k70 k71 k72 k73 k6l k7l z60 z61 z62 z63 z70 z71 z72 z73 d67 d76
    obtain ⟨y0, y1, y2, y3⟩ := PE.out.b6.four
    obtain ⟨x0, x1, x2, x3⟩ := PE.out.b7.four
    have yl := PE.out.b6.lt
    have xl := PE.out.b7.lt
    go_wp2_with fail
    refine bodyPost_ret (v := .tuple #[.agg (cfC (objAt T.pt1 T.ob1 ia) (ao : Nat) (af : Nat) (ab : Nat)), .agg (cfC (objAt T.pt2 T.ob2 ib) (bo : Nat) (bf : Nat) (bbi : Nat)), .nilIface]) ?_ rfl ⟨PE.out.old, by rw [HRES.out] <;> exact ⟨_, _, rfl, ST.out.ta, ST.out.tb, ST.out.la, ST.out.lb, ST.out.oka, ST.out.okb, Nat.le_trans ST.out.bnd.1 (by omega), Nat.le_trans ST.out.bnd.2 (by omega)⟩⟩
    rw [results_cct rfl]
    go_simp
  | cons i rest =>
   have X : KCtx T W a5 v5 g L cap z6 z7 ra rb p.length := ⟨hL, hg, hcap, hlen, hL2, HD.out, HPK.out, HS5.out, HO5.out, HLA.out⟩
   by_cases hA : ∃ m u1, ta = .arr m u1
   ·obtain ⟨m, u1, rfl⟩ := hA
    by_cases hB : ∃ m2 u2, tb = .arr m2 u2
    ·obtain ⟨m2, u2, rfl⟩ := hB
     by_cases hmi : m ≤ i
     ·exact pkf_a63 hmi X hqk hqg HACC ST HRR hJ hK
     ·by_cases hmm : m2 ≤ i
      ·exact pkf_a65 hmi hmm X hqk hqg HACC ST HRR hJ hK
      ·exact pkf_arr hmi hmm X hqk hqg HACC ST HRR hJ hK
    ·exact pkf_a57 (fun m2 u2 e => hB ⟨m2, u2, e⟩) X hqk hqg HACC ST HRR hJ hK
   ·cases hC : isC ta with
    | false => exact pkf_other hC (fun m u e => hA ⟨m, u, e⟩) X hqk hqg HACC ST HRR hJ hK
    | true =>
     obtain ⟨un, nm, sz, n, pn, py, xa, xb, rfl⟩ : ∃ un nm sz n pn py xa xb, ta = .comp un nm sz n pn py xa xb := by
      cases ta with
      | comp un nm sz n pn py xa xb => exact ⟨un, nm, sz, n, pn, py, xa, xb, rfl⟩
      | _ => cases hC
     clear hC hA
     by_cases hin : n ≤ i
     ·exact pkf_13 hin X hqk hqg HACC ST HRR hJ hK
     ·by_cases h0 : (pn i).size = 0
      ·exact pkf_anon hin h0 X hqk hqg HACC ST HRR hJ hK
      ·cases hnC : isC tb with
       | false => exact pkf_33 hin h0 hnC X hqk hqg HACC ST HRR hJ hK
       | true =>
        obtain ⟨un2, nm2, sz2, n2, pn2, py2, xa2, xb2, rfl⟩ : ∃ un nm sz n pn py xa xb, tb = .comp un nm sz n pn py xa xb := by
         cases tb with
         | comp un nm sz n pn py xa xb => exact ⟨un, nm, sz, n, pn, py, xa, xb, rfl⟩
         | _ => cases hnC
        clear hnC
        cases hfp : findP (pn i) (.comp un2 nm2 sz2 n2 pn2 py2 xa2 xb2) with
        | none => exact pkf_36 hin h0 hfp X hqk hqg HACC ST HRR hJ hK
        | some h =>
         by_cases hbb : xb i = 0 ∧ h.bits = 0
         ·exact pkf_plain hin h0 hfp hbb X hqk hqg HACC ST HRR hJ hK
         ·by_cases hre : rest.isEmpty = true
          ·by_cases ha1 : al (py i) = 0
           ·exact pkf_49 hin h0 hfp hbb hre ha1 X hqk hqg HACC ST HRR hJ hK
           ·by_cases ha2 : al h.y = 0
            ·exact pkf_52 hin h0 hfp hbb hre ha1 ha2 X hqk hqg HACC ST HRR hJ hK
            ·exact pkf_bits hin h0 hfp hbb hre ha1 ha2 X hqk hqg HACC ST HRR hJ hK
          ·exact pkf_46 hin h0 hfp hbb hre X hqk hqg HACC ST HRR hJ hK
end Go.Proofs.YtfilbgmbmlmdbaaGreatDoor
