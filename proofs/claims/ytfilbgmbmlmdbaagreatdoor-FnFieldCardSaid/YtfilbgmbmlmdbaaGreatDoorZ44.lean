/- An accessor by numbers: the walk. Nothing is claimed here. -/
import Derived.Test.YtfilbgmbmlmdbaaGreatDoorZ43
import Derived.Deep.DeepCutAuto
import Derived.Deep.CutBlock
set_option linter.unusedSimpArgs false
set_option linter.unusedVariables false
set_option maxRecDepth 1000000
set_option maxHeartbeats 16000000
namespace Go.Proofs.YtfilbgmbmlmdbaaGreatDoor
open Go.RowKit Go.MapKept
theorem path_any {W : World} {b n cap : Nat} {t : Ty} {a : Option Addr} (r : Rep W Nowhere b t) (ok : FOk t) (hp : U8s W (.slice a n cap) n) (h2 : 2 ≤ n) :
  Calls Tryz.prog 9 #[.pointer (some ⟨b, 0, none⟩), .slice a n cap] W (PathOk W t) := by
 obtain ⟨a', cap', e, hcap, hp⟩ := hp
 simp only [Value.slice.injEq, true_and] at e
 obtain ⟨rfl, rfl⟩ := e
 rcases hp with hp | ⟨pb, off, rfl, hpb, hc⟩
 ·omega
 obtain ⟨z, hz, hz8⟩ := hc 0 (by omega)
 rw [Nat.add_zero] at hz
 have lb := r.lt
 have HR := Lib.hid r
 have HOK := Lib.hid ok
 have HC := Lib.hid hc
 have n1 : (1 : Int) ≤ n := by omega
 have n2 : (2 : Int) ≤ n := by omega
 have nc : (n : Int) ≤ cap := by omega
 have n0 : (0 : Int) < n := by omega
 clear r ok hc
 go_enter Tryz.func9, Tryz.ntmps9
 go_upto_if 21 with fail
 obtain ⟨B, hB⟩ : ∃ B, ((z : Int) % 16 == 1) = B := ⟨_, rfl⟩
 rw [hB]
 clear hB
 go_cut [22] (fun s22 wx => Hid (∃ n0 : Nat, n0 ≤ 255 ∧ Blk wx W.heap.size #[.int .i64 (n0 : Nat)] 3 ∧ Below W.heap.size W wx))
 case first =>
  cases B with
  | false =>
   go_wp2_with fail
   go_meet
   exact Lib.hid ⟨0, by omega, Blk.new _ _ _, (Below.refl _ _).alloc (Nat.le_refl _) _⟩
  | true =>
   have hzi : (z : Int) < 256 := by omega
   obtain ⟨y, hy, hy2⟩ : ∃ y : Nat, (z : Int) / 16 % 3 = (y : Int) ∧ y ≤ 2 := ⟨z / 16 % 3, by omega, by omega⟩
   have hyi : (y : Int) ≤ 2 := by omega
   have hyj : (0 : Int) ≤ y := by omega
   go_wp2_with fail
   go_meet
   refine Lib.hid ⟨1 + y, by omega, ?_, (Below.refl _ _).alloc (Nat.le_refl _) _⟩
   rw [show ((1 + y : Nat) : Int) = 1 + (y : Int) by omega]
   exact Blk.new _ _ _
 case rest =>
  obtain ⟨n0', hn0, hbk, hb⟩ := hcut.out
  obtain ⟨w1, rfl⟩ : ∃ w1 : World, w1 = wc := ⟨_, rfl⟩
  have ST0 := Lib.hid (PthS.start hn0 hbk hb HR.out HOK.out)
  clear hcut hbk hb
  obtain ⟨m, hmin, hm2, hm5, hmn⟩ : ∃ m : Nat, (if (5 : Int) < (n : Int) then (5 : Int) else n) = (m : Int) ∧ 2 ≤ m ∧ m ≤ 5 ∧ m ≤ n := by
   by_cases h : (5 : Int) < (n : Int)
   ·exact ⟨5, by rw [if_pos h]; rfl, by omega, by omega, by omega⟩
   ·exact ⟨n, by rw [if_neg h], by omega, by omega, Nat.le_refl _⟩
  have m1 : (1 : Int) ≤ m := by omega
  have mc : (m : Int) ≤ cap := by omega
  go_wp2_with fail
  go_loopg [5, 6, 41] (m - 1) (fun gk s5 s6 s41 wr => ∃ i c : Nat, i ≤ m - 1 ∧ m - 1 - i ≤ gk ∧ s41 = .int .i64 (i : Int) ∧ s6 = .pointer (some ⟨c, 0, none⟩) ∧ Hid (PthS W t i s5 c wr))
  case atStart => exact ⟨0, b, Nat.zero_le _, Nat.le_refl _, rfl, rfl, ST0⟩
  case round =>
   obtain ⟨i, c, hi, hgk, rfl, rfl, ST⟩ := hrel
   by_cases hlt : i < m - 1
   ·obtain ⟨⟨g, L, lcap, q0, q, u, rfl, ho, hx, hLi, hLc, ru, oku, hv⟩, hold⟩ := ST.out
    have hL1 : 1 ≤ L := by have := ho.1; simp only [List.length_map, List.length_cons, Nat.mul_one] at this; omega
    obtain ⟨zv, hzv, hzv8⟩ := HC.out (1 + i) (by omega)
    have hzc : wr.cell? ⟨pb, off + 1 + i, none⟩ = some (.int .u8 zv) := by rw [Nat.add_assoc]; exact (hold.cell (p := ⟨pb, off + (1 + i), none⟩) hpb).trans hzv
    have lpb := Nat.lt_of_lt_of_le hpb hold.size
    have hii : (i : Int) < ((m - 1 : Nat) : Int) := by omega
    have hzi : (zv : Int) < 256 := by omega
    have rw_ := ru.old hold
    have lcw := rw_.lt
    have HV := Lib.hid hv
    have HX := Lib.hid hx
    have HO := Lib.hid ho
    have HRU := Lib.hid ru
    have HOU := Lib.hid oku
    have HOLD := Lib.hid hold
    have DONE := Lib.hid (ST.out.done (by omega))
    have hgl := ho.lt g rfl
    rcases rw_.three with ⟨un, tn, sz, nn, pn, py, pa, pbb, rfl⟩ | ⟨mm, u2, c2, rfl, k0, k2, k4, r2⟩ | ⟨K, hnc, k0, hk3, -, -⟩
    ·obtain ⟨pv, pxs, pc, hblk, hown, hrow, hrep⟩ := HRU.out.comp_inv
     obtain ⟨sa, scap, rfl⟩ := own_slice hown
     obtain ⟨c0, _, _, _, _, c5⟩ := (hblk.old hold).six
     by_cases hn0 : nn = 0
     ·subst hn0
      clear rw_ hx ho hv ru oku ST hzv HV HX HO HRU HOU HOLD hblk hown hrow hrep hold
      cases un
      all_goals
       go_wp2_with fail
       go_ret
       exact DONE.out
     ·have hn1 : (0 : Int) < nn := by omega
      have hni : ¬ (nn : Int) = 0 := by omega
      obtain ⟨ix, hix, hixl⟩ : ∃ ix : Nat, (zv : Int) % (nn : Int) = (ix : Int) ∧ ix < nn := ⟨zv % nn, rfl, Nat.mod_lt _ (by omega)⟩
      obtain ⟨hsz, hn20, hpp, hyy, haa⟩ := HOU.out.parts
      have hixi : (ix : Int) < nn := by omega
      have hni20 : (nn : Int) ≤ 20 := by omega
      obtain ⟨g1', c1', e1, -⟩ := own_form hown (by omega)
      simp only [Value.slice.injEq] at e1
      obtain ⟨rfl, -, rfl⟩ := e1
      have H1w := CellsKept.own (CellsKept.below hold) hown
      obtain ⟨f0, f1, f2, f3, f4⟩ := row_cells H1w (hrow ix hixl)
      have lg := (H1w.lt g1' rfl).2
      have HY := Lib.hid (hyy ix hixl)
      have HA := Lib.hid (haa ix hixl)
      have HREP := Lib.hid (hrep ix hixl)
      clear H1w rw_ hx ho hv ru oku ST hzv hblk hown hrow hrep hpp hyy haa hold
      -- ARMS
      by_cases hz0 : (pn ix).size = 0
      ·have hnm : pn ix = ⟨#[]⟩ := by
        have h9 := hz0
        generalize pn ix = nmx at h9
        obtain ⟨⟨l9⟩⟩ := nmx
        cases l9 with
        | nil => rfl
        | cons a9 r9 => cases h9
       obtain ⟨b', l⟩ := leads_any (py ix).layers (Nat.le_refl _) HREP.out
       have HLD := Lib.hid l
       have OKB : Hid (FOk (py ix).behind) := by
        obtain ⟨-, -, un', nm', sz', n', pn', py', pa', pb', e', -⟩ := HA.out hz0
        have := HY.out
        rw [e'] at this ⊢
        exact Lib.hid this
       clear l
       rw [hnm] at f0
       cases un
       all_goals
        go_upto_region 12 with fail
        obtain ⟨wc, hwc⟩ : ∃ wc, wc = wr.alloc (.cells #[.string ⟨#[]⟩, .pointer (some ⟨pc ix, 0, none⟩), .int .i64 (pa ix : Nat), .int .i64 (pbb ix : Nat), .int .i64 0] 56) := ⟨_, rfl⟩
        rw [← hwc]
        have hpk : Hid (Blk wc wr.heap.size #[.string ⟨#[]⟩, .pointer (some ⟨pc ix, 0, none⟩), .int .i64 (pa ix : Nat), .int .i64 (pbb ix : Nat), .int .i64 0] 56) := by rw [hwc]; exact Lib.hid (Blk.new _ _ _)
        have HOC : Hid (wc.ownsRow W.heap.size 3 1 (.slice (some ⟨g, 0, none⟩) L lcap) L ((q0 :: q).map fun x : Nat => Value.int .i64 x)) := by rw [hwc]; exact Lib.hid (HO.out.alloc _)
        have HBC : Hid (Below W.heap.size W wc) := by rw [hwc]; exact Lib.hid (HOLD.out.alloc HOLD.out.size _)
        have hgw : g ≠ wr.heap.size := Nat.ne_of_lt hgl.2
        clear f0 f1 f2 f3 f4 lg hwc c0 c5
        go_wp2_with (at_builtin; refine wpList_app intParts (.tmp 82) (.tmp 84) rfl rfl W.heap.size (.slice (some ⟨g, 0, none⟩) L lcap) L _ rfl (HOC.out.alloc _) wc.heap.size 1 1 #[.int .i64 (ix : Nat)] rfl (Blk.new _ _ _) rfl rfl (by decide) ?_ ?ka1 ?ka2 ?ka3; intro g4 cap4 w4 ha; have NEW := Lib.hid (PthS.step (HOC.out.alloc _) ha (HBC.out.alloc HBC.out.size _) HX.out hLi (by omega) HLD.out.rep OKB.out (fun r hr => HV.out (ix :: r) ⟨hixl, by rw [if_pos hz0]; exact hr⟩)); have hpk4 := (hpk.out.alloc _).grown ha.2.1 (fun h => hgw.symm (Option.some.inj h)); obtain ⟨d0, d1, _, _, _⟩ := hpk4.five; have ld := hpk4.lt; clear ha hpk4)
        case ka1 => omega
        case ka2 => unfold maxLen; omega
        case ka3 => have := HBC.out.size; simp; omega
        refine (leads_calls (HLD.out.old (NEW.out.old))).mono ?_
        rintro e w5 ⟨rfl, rfl⟩
        go_wp2_with fail
        go_roundg (m - 1 - (i + 1))
        case measure => omega
        case rel => exact ⟨i + 1, b', by omega, Nat.le_refl _, by go_num, rfl, NEW⟩
      ·have hnf := name_full2 hz0
       obtain ⟨B6, hB6⟩ : ∃ B6, ((zv : Int) / 64 == 0) = B6 := ⟨_, rfl⟩
       cases B6 with
       | false =>
        cases un
        all_goals
         go_upto_region 12 with fail
         obtain ⟨wc, hwc⟩ : ∃ wc, wc = wr.alloc (.cells #[.string (pn ix), .pointer (some ⟨pc ix, 0, none⟩), .int .i64 (pa ix : Nat), .int .i64 (pbb ix : Nat), .int .i64 0] 56) := ⟨_, rfl⟩
         rw [← hwc]
         have hpk : Hid (Blk wc wr.heap.size #[.string (pn ix), .pointer (some ⟨pc ix, 0, none⟩), .int .i64 (pa ix : Nat), .int .i64 (pbb ix : Nat), .int .i64 0] 56) := by rw [hwc]; exact Lib.hid (Blk.new _ _ _)
         have HOC : Hid (wc.ownsRow W.heap.size 3 1 (.slice (some ⟨g, 0, none⟩) L lcap) L ((q0 :: q).map fun x : Nat => Value.int .i64 x)) := by rw [hwc]; exact Lib.hid (HO.out.alloc _)
         have HBC : Hid (Below W.heap.size W wc) := by rw [hwc]; exact Lib.hid (HOLD.out.alloc HOLD.out.size _)
         have hgw : g ≠ wr.heap.size := Nat.ne_of_lt hgl.2
         clear f0 f1 f2 f3 f4 lg hwc c0 c5
         go_wp2_with (at_builtin; refine wpList_app intParts (.tmp 82) (.tmp 84) rfl rfl W.heap.size (.slice (some ⟨g, 0, none⟩) L lcap) L _ rfl (HOC.out.alloc _) wc.heap.size 1 1 #[.int .i64 (ix : Nat)] rfl (Blk.new _ _ _) rfl rfl (by decide) ?_ ?ka1 ?ka2 ?ka3; intro g4 cap4 w4 ha; have NEW := Lib.hid (PthS.step (HOC.out.alloc _) ha (HBC.out.alloc HBC.out.size _) HX.out hLi (by omega) HREP.out HY.out (fun r hr => HV.out (ix :: r) ⟨hixl, by rw [if_neg hz0]; exact hr⟩)); have hpk4 := (hpk.out.alloc _).grown ha.2.1 (fun h => hgw.symm (Option.some.inj h)); obtain ⟨d0, d1, _, _, _⟩ := hpk4.five; have ld := hpk4.lt; clear ha hpk4)
         case ka1 => omega
         case ka2 => unfold maxLen; omega
         case ka3 => have := HBC.out.size; simp; omega
         go_roundg (m - 1 - (i + 1))
         case measure => omega
         case rel => exact ⟨i + 1, pc ix, by omega, Nat.le_refl _, by go_num, rfl, NEW⟩
       | true =>
        cases un
        all_goals
         go_upto_region 12 with fail
         obtain ⟨wc, hwc⟩ : ∃ wc, wc = wr.alloc (.cells #[.string (pn ix), .pointer (some ⟨pc ix, 0, none⟩), .int .i64 (pa ix : Nat), .int .i64 (pbb ix : Nat), .int .i64 0] 56) := ⟨_, rfl⟩
         rw [← hwc]
         have hpk : Hid (Blk wc wr.heap.size #[.string (pn ix), .pointer (some ⟨pc ix, 0, none⟩), .int .i64 (pa ix : Nat), .int .i64 (pbb ix : Nat), .int .i64 0] 56) := by rw [hwc]; exact Lib.hid (Blk.new _ _ _)
         have HOC : Hid (wc.ownsRow W.heap.size 3 1 (.slice (some ⟨g, 0, none⟩) L lcap) L ((q0 :: q).map fun x : Nat => Value.int .i64 x)) := by rw [hwc]; exact Lib.hid (HO.out.alloc _)
         have HBC : Hid (Below W.heap.size W wc) := by rw [hwc]; exact Lib.hid (HOLD.out.alloc HOLD.out.size _)
         have hgw : g ≠ wr.heap.size := Nat.ne_of_lt hgl.2
         clear f0 f1 f2 f3 f4 lg hwc c0 c5
         go_wp2_with (at_builtin; refine wpList_app intParts (.tmp 82) (.tmp 84) rfl rfl W.heap.size (.slice (some ⟨g, 0, none⟩) L lcap) L _ rfl (HOC.out.alloc _) wc.heap.size 1 1 #[.int .i64 (ix : Nat)] rfl (Blk.new _ _ _) rfl rfl (by decide) ?_ ?ka1 ?ka2 ?ka3; intro g4 cap4 w4 ha; have NEW := Lib.hid (PthS.step (HOC.out.alloc _) ha (HBC.out.alloc HBC.out.size _) HX.out hLi (by omega) HREP.out HY.out (fun r hr => HV.out (ix :: r) ⟨hixl, by rw [if_neg hz0]; exact hr⟩)); have hpk4 := (hpk.out.alloc _).grown ha.2.1 (fun h => hgw.symm (Option.some.inj h)); obtain ⟨d0, d1, _, _, _⟩ := hpk4.five; have ld := hpk4.lt; clear ha hpk4)
         case ka1 => omega
         case ka2 => unfold maxLen; omega
         case ka3 => have := HBC.out.size; simp; omega
         go_ret
         exact NEW.out.done (by omega)
    ·have hmm := (HOU.out.arr).2
     have hmi : (1 : Int) ≤ mm := by omega
     have hmi6 : (mm : Int) ≤ 6 := by omega
     have hm0 : ¬ (mm : Int) = 0 := by omega
     obtain ⟨ix, hix, hixl⟩ : ∃ ix : Nat, (zv : Int) % (mm : Int) = (ix : Int) ∧ ix < mm := ⟨zv % mm, rfl, Nat.mod_lt _ (by omega)⟩
     obtain ⟨c3, -, -, h4, r3⟩ := HRU.out.elem
     have R3 := Lib.hid r3
     have H4 := Lib.hid h4
     have hcW := HRU.out.lt
     clear k4 r2 rw_ hx ho hv ru oku ST h4 r3 hmm
     go_wp2_with (at_builtin; refine wpList_app intParts (.tmp 104) (.tmp 112) rfl rfl W.heap.size _ L _ rfl (HO.out.alloc _) wr.heap.size 1 1 #[.int .i64 (ix : Nat)] rfl (Blk.new _ _ _) rfl rfl (by decide) ?_ ?ka1 ?ka2 ?ka3; intro g4 cap4 w4 ha; have NEW := Lib.hid (PthS.step (HO.out.alloc _) ha (HOLD.out.alloc HOLD.out.size _) HX.out hLi (by omega) R3.out (.leaf (.int HOU.out.arr.1)) (fun r hr => HV.out (ix :: r) hr)); have h4w := (NEW.out.old.cell (p := ⟨c, 4, none⟩) hcW).trans H4.out; have lc4 := Nat.lt_of_lt_of_le hcW NEW.out.old.size; clear ha k0 k2 hzc lpb lcw)
     case ka1 => omega
     case ka2 => unfold maxLen; omega
     case ka3 => have := HOLD.out.size; simp; omega
     go_roundg (m - 1 - (i + 1))
     case measure => omega
     case rel => exact ⟨i + 1, c3, by omega, Nat.le_refl _, by go_num, rfl, NEW⟩
    ·have hkc : (K == 4) = false ∧ (K == 5) = false := by
      have h := rw_.kindCell
      rw [k0] at h
      cases u with
      | comp un => cases un <;> cases hnc
      | _ => simp only [Option.some.injEq, Value.int.injEq, true_and, Ty.kind] at h; subst h; exact ⟨by decide, by decide⟩
     obtain ⟨hk4, hk5⟩ := hkc
     clear rw_ hx ho hv ru oku ST hzv HV HX HO HRU HOU HOLD hold
     go_wp2_with fail
     go_ret
     exact DONE.out
   ·obtain rfl : i = m - 1 := by omega
    have DONE := Lib.hid (ST.out.done (by omega))
    clear ST
    go_wp2_with fail
    go_ret
    exact DONE.out
end Go.Proofs.YtfilbgmbmlmdbaaGreatDoor
