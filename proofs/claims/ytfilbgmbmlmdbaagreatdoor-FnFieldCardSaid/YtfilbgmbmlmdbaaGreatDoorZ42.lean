/- The contract of turnedOf, with the names of the fields: a struct turned by numbers. Nothing is claimed here. -/
import Derived.Test.YtfilbgmbmlmdbaaGreatDoorZ41
set_option linter.unusedSimpArgs false
set_option linter.unusedVariables false
set_option maxRecDepth 1000000
set_option maxHeartbeats 16000000
namespace Go.Proofs.YtfilbgmbmlmdbaaGreatDoor
open Go.RowKit
namespace Nam
theorem turnedOf_any (ab : Nat) (nm : ByteArray) (mx : Nat) (t : Ty) (ln : Nat) (lv : Value) (w : World) (r : Rep w Nowhere ab t) {A : Prop} {ns : ByteArray} (ht : StrN A FN 200 mx nm ns t) (hl : Letters ns) (hns : ns.size ≤ 10) (hT : TypeC 1 FN) (hln : ln ≤ 100) (hs : U32s w lv ln) :
  Calls Tryz.prog 8 #[.pointer (some ⟨ab, 0, none⟩), lv] w (Turned w nm) := by
 obtain ⟨sz, n, pn, py, pa, pb, rfl, hn, hsz, hok, nx, hnx, px, hpx, hpn⟩ := ht
 have Hs := Lib.hid hs
 have Hpx := Lib.hid hpx
 have Hpn := Lib.hid hpn
 clear hpx hpn
 obtain ⟨z2, hy0, hy1, h99⟩ := number_det 99 ln w.heap.size lv w (by omega) hln hs
 have H99 := Lib.hid h99
 clear h99
 obtain ⟨la, lcap, rfl, -⟩ := hs
 obtain ⟨pv, pxs, pc, hblk, hown, hrow, hrep⟩ := r.comp_inv
 obtain ⟨sa, scap, rfl⟩ := own_slice hown
 obtain ⟨_, _, _, _, _, c5⟩ := hblk.six
 have hablt := hblk.lt
 go_enter Tryz.func8, Tryz.ntmps8
 go_wp2
 go_loopg [5, 23] n (fun gk a b wr => FldLoop w (.slice la ln lcap) ns px (w.heap.size + 1) n gk a b wr)
 case atStart => exact ⟨0, 0, _, [], fun _ => ⟨#[]⟩, fun _ => .int 0 false ⟨#[]⟩, fun _ => 0, fun _ => 0, fun _ => 0, FldSt.start w _ _ _ _ _ _ (by simp), Lib.hid (FNms.zero _ _ _), Nat.zero_le _, Nat.le_refl _, Nat.le_refl _, rfl, rfl⟩
 case round =>
  obtain ⟨i, q, v, xs, fn, fy, fa, fb, fc, st, Hfn, hi, hq, hgk, rfl, rfl⟩ := hrel
  by_cases hlt : i < n
  ·obtain ⟨sg, scap', hse, hsgl⟩ := own_form hown (by omega)
   simp only [Value.slice.injEq] at hse
   obtain ⟨rfl, -, rfl⟩ := hse
   have hown' : wr.ownsRow 0 56 5 (.slice (some ⟨sg, 0, none⟩) n scap) n pxs := ownsRow_of hown fun g hg hl => st.old.block g hl
   obtain ⟨p0, p1, p2, p3, p4⟩ := row_cells hown' (hrow i hlt)
   rcases (hok i hlt).1 with ⟨hnm, hy, hbits⟩ | ⟨hnm, hy, hb0, -⟩
   ·as_aux_lemma =>
    have hne := name_full hnm
    have Hone : Hid (pn i = ns.extract (px i) (px i + 1) ∧ px i + 1 ≤ px (i + 1)) := Lib.hid ((Hpx.out i hlt).elim id fun x => by rw [x.2.1] at hnm; cases hnm)
    have hB : w.heap.size + 1 ≤ wr.heap.size := st.cap.lt
    go_wp2_with (at_builtin; refine wpList_app elemParts (.tmp 37) (.tmp 39) rfl rfl (w.heap.size + 1) v q xs rfl ((st.own.alloc _).alloc _) (wr.heap.size + 1) 1 1 _ rfl (Blk.newAt _ _ _ (by simp)) rfl rfl (by decide) ?_ ?h1 ?h2 ?h3; intro g cap w1 ha)
    case h1 => omega
    case h2 => unfold maxLen; omega
    case h3 => simp; omega
    obtain ⟨fy', fa', fb', fc', st'⟩ := flat_step st (((Below.refl _ _).alloc (Nat.le_refl _) _).alloc (by simp) _) ha (gn := fun _ => pn i) (gy := fun _ => py i) (ga := fun _ => pa i) (gb := fun _ => pb i) (gc := fun _ => pc i)
     (fun j hj => by (obtain rfl : j = 0 := (by omega)); exact ⟨rfl, rfl, rfl, rfl, rfl⟩) (fun j _ => hrep i hlt) (fun j _ => ⟨hnm, hy⟩)
    go_roundg (n - (i + 1))
    case measure => omega
    case rel => exact ⟨i + 1, q + 1, _, _, _, _, _, _, _, st', Lib.hid (Hfn.out.step (Nat.le_refl _) Hone.out.2 (fun j hj => if_pos hj) ((if_neg (Nat.lt_irrefl q)).trans Hone.out.1)), by omega, by omega, Nat.le_refl _, rfl, by go_num⟩
   ·as_aux_lemma =>
    have hne := name_nil hnm
    have hB : w.heap.size + 1 ≤ wr.heap.size := st.cap.lt
    obtain ⟨un2, sz2, n2, pn2, py2, pa2, pb2, hpy, hn21, hn22, -, hok2⟩ := hy
    have Htwo : Hid (n2 = 2 ∧ (∀ j, pn2 j = upd (fun _ => ns.extract (px i) (px i + 1)) 1 (ns.extract (px i + 1) (px i + 1 + 1)) j) ∧ px i + 2 ≤ px (i + 1)) := by
     refine Lib.hid ?_
     rcases Hpx.out i hlt with ⟨e, h2⟩ | ⟨_, _, ⟨un3, sz3, py3, pa3, pb3, e⟩, h2⟩
     ·exfalso
      have := nm_top Hpx.out Hpn.out i hlt
      rw [e, ByteArray.size_extract] at hnm
      omega
     ·rw [hpy] at e
      simp only [Ty.comp.injEq] at e
      obtain ⟨-, -, -, e2, e3, -⟩ := e
      exact ⟨e2, fun j => by rw [e3], h2⟩
    have hrepi := hrep i hlt
    rw [hpy] at hrepi
    obtain ⟨pv2, pxs2, pc2, hblk2, hown2, hrow2, hrep2⟩ := hrepi.comp_inv
    obtain ⟨sg2, scap2, rfl, hsg2⟩ := own_form hown2 (by omega)
    obtain ⟨-, -, -, -, -, r5⟩ := (hblk2.old st.old).six
    have hown2' : wr.ownsRow 0 56 5 (.slice (some ⟨sg2, 0, none⟩) n2 scap2) n2 pxs2 := ownsRow_of hown2 fun g hg hl => st.old.block g hl
    have hpcl : pc i < wr.heap.size := (hblk2.old st.old).lt
    clear hpy
    go_wp2_with (at_builtin; refine wpList_app_row elemParts (.tmp 30) (.tmp 35) rfl rfl (w.heap.size + 1) v q xs rfl (st.own.alloc _) 0 sg2 n2 scap2 pxs2 rfl (hown2'.alloc _) (rows_one hown2.1 (fun _ => rfl) hrow2) ?h0 ?_ ?h1 ?h2 ?h3; rotate_left; intro g cap w1 ha)
    case h0 => omega
    case h1 => omega
    case h2 => unfold maxLen; omega
    case h3 => simp; omega
    obtain ⟨fy', fa', fb', fc', st'⟩ := flat_step st ((Below.refl _ _).alloc (Nat.le_refl _) _) ha hrow2 hrep2 (fun j hj => ⟨(hok2 j hj).1, (hok2 j hj).2.1⟩)
    go_roundg (n - (i + 1))
    case measure => omega
    case rel => exact ⟨i + 1, q + n2, _, _, _, _, _, _, _, st', Lib.hid (by
     obtain ⟨e2, e3, hp2⟩ := Htwo.out
     rw [e2]
     exact Hfn.out.two (Nat.le_refl _) hp2 (fun j hj => if_pos hj) (by rw [if_neg (Nat.lt_irrefl q), Nat.sub_self, e3]; rfl) (by rw [if_neg (by omega), show q + 1 - q = 1 by omega, e3]; rfl)), by omega, by omega, Nat.le_refl _, rfl, by go_num⟩
  ·obtain ⟨wq, rfl⟩ : ∃ wq : World, wq = wr := ⟨_, rfl⟩
   have hie : i = n := by omega
   have Hie := Lib.hid hie
   clear hie
   obtain ⟨a0, a1, -⟩ := (hblk.old st.old).six
   have hablt2 : ab < wq.heap.size := Nat.lt_of_lt_of_le hablt st.old.size
   obtain ⟨va, vcap, rfl⟩ := own_slice st.own
   go_wp2_with fail
   go_region_held3 (fun w' => w'.cell? ⟨ab, 0, none⟩ = some (.int .i64 4) ∧ w'.cell? ⟨ab, 1, none⟩ = some (.string nm)) (go_keep) (first | fail)
   go_wp2_with fail
   clear hgk
   have Hd : Hid (∀ i j, i < j → j < q → fn i ≠ fn j) := Lib.hid (Hfn.out.distinct (by rw [Hie.out, Hpn.out]; exact hnx) hl)
   have Hq10 : Hid (q ≤ 10) := Lib.hid (by have := Hfn.out.len; rw [Hie.out, Hpn.out] at this; omega)
   clear Hfn Hpx
   go_loopg [9, 55] q (fun gk s9 s55 w2 => TurnLoop wq wq.heap.size nm fn (pick (z2 % 2 == 1) q) q gk s9 s55 w2)
   case atStart => exact ⟨0, 0, 0, _, [], fun _ => ⟨#[]⟩, fun _ => .int 0 false ⟨#[]⟩, fun _ => 0, fun _ => 0, fun _ => 0, ((StrSt.start wq nm Nowhere (fun _ h => h.elim) FN 200 _ _ _ _ _).move ((Below.refl _ _).drew)), Lib.hid (TNms.zero _ _ _), Nat.le_refl _, Nat.zero_le _, Nat.zero_le _, Nat.le_refl _, rfl, rfl⟩
   case round =>
    obtain ⟨k, c, at_, v, xs', pn', py', pa', pb', pc', su, Htn, hck, hkq, hat, hgk2, rfl, rfl⟩ := hrel
    have hatb : at_ ≤ 100000 := Nat.le_trans hat (Nat.le_trans (Nat.mul_le_mul_right 1856 (show k ≤ 40 by omega)) (by decide))
    have Hat := Lib.hid hat
    clear hat
    obtain ⟨-, -, c2, -, -, c5'⟩ := su.blk.six
    have f2 := su.blk.free 2
    have f5 := su.blk.free 5
    by_cases hlt : k < q
    ·have hlv := (st.cap.old su.old).cell 0
     simp only [List.getElem?_toArray, List.getElem?_cons_zero] at hlv
     have hwq : Below w.heap.size w wr := st.old.trans (su.old.mono st.old.size)
     go_wp2_with fail
     refine (number_any k ln w.heap.size _ _ (by omega) hln hlv (Hs.out.old hwq)).mono ?_
     rintro e w3 ⟨z, rfl, hz0, hz1, nd, rfl⟩
     go_wp2_with fail
     refine (H99.out (wr.drewN nd) (below_drewN hwq nd) hlv).mono ?_
     rintro e w3 ⟨rfl, nd2, rfl⟩
     have hbit := u32_mask1 z2 hy0 hy1
     go_upto_if 65 with fail
     go_cut [13] (fun s13 wx => ∃ jn : Nat, s13 = .int .i64 jn ∧ Hid (jn = pick (z2 % 2 == 1) q k) ∧ jn < q ∧ Below wr.heap.size wr wx)
     case first =>
      by_cases hb1 : (z2 % 2 == 1) = true
      ·go_wp2_with fail
       go_meet
       exact ⟨q - 1 - k, congrArg (Value.int .i64) (by omega), Lib.hid (by rw [hb1]; rfl), by omega, below_drewN (Below.refl _ _) _⟩
      ·have hb2 : (z2 % 2 == 1) = false := by simpa using hb1
       clear hb1
       go_wp2_with fail
       go_meet
       exact ⟨k, rfl, Lib.hid (by rw [hb2]; rfl), hlt, below_drewN (Below.refl _ _) _⟩
     case rest =>
      obtain ⟨jn, rfl, Hjx, hjq, hwc⟩ := hcut
      clear hbit hy0 hy1 c2 c5' f2 f5 hlv
      have sv := su.move hwc
      have hwq : Below w.heap.size w wc := hwq.trans (hwc.mono hwq.size)
      obtain ⟨-, -, c2, -, -, c5'⟩ := sv.blk.six
      have f2 := sv.blk.free 2
      have f5 := sv.blk.free 5
      obtain ⟨wd, rfl⟩ : ∃ wd : World, wd = wc := ⟨_, rfl⟩
      obtain ⟨fg, fcap, hfe, hfgl⟩ := own_form st.own (by omega)
      simp only [Value.slice.injEq] at hfe
      obtain ⟨rfl, -, rfl⟩ := hfe
      have hownr : wd.ownsRow (w.heap.size + 1) 56 5 (.slice (some ⟨fg, 0, none⟩) q vcap) q xs := ownsRow_of st.own fun g hg hl => sv.old.block g hl
      obtain ⟨p0, p1, p2, p3, p4⟩ := row_cells hownr (st.row jn hjq)
      have hfy := (st.ok jn hjq).2
      have hry := st.rep jn hjq
      have hryr := hry.old hwq
      have hcl := hryr.lt
      go_upto_block 4 with fail
      go_cut [14] (fun s14 wx => s14 = .pointer (some ⟨wd.heap.size, 0, none⟩) ∧ ∃ cb y bits, PSt wd wq.heap.size v wd.heap.size (fn jn) cb y (fa jn) bits wx)
      case first => as_aux_lemma =>
       refine wp_world (PSt wd wq.heap.size v wd.heap.size (fn jn) (fc jn) (fy jn) (fa jn) 0) ?_ (fun we pe => ?_)
       ·exact PSt.of sv (Below.refl _ _) ((Below.refl _ _).alloc (Nat.le_refl _) _) (Nat.le_refl _) (Blk.new _ _ _) hfy (.inr ⟨w, hry, hwq.trans (((Below.refl _ _).alloc (Nat.le_refl _) _).mono hwq.size), st.old.size⟩) (.inl rfl)
       ·obtain ⟨p0, p1, p2, p3, p4⟩ := pe.blk.five
        have g1 := pe.blk.free 1
        have g3 := pe.blk.free 3
        have hpl : wd.heap.size < we.heap.size := pe.blk.lt
        have hrye := hry.old (hwq.trans (pe.old.mono hwq.size))
        have hcle := hrye.lt
        rcases bool_four (z / 16 % 8) with hz8 | ⟨hz7, hz8⟩ | ⟨hz6, hz7, hz8⟩ | ⟨hz5, hz6, hz7, hz8⟩ | ⟨hz4, hz5, hz6, hz7⟩
        ·go_wp2_with fail
         go_roundg (q - (k + 1))
         case measure => omega
         case rel => exact ⟨k + 1, c, at_, _, _, _, _, _, _, _, sv.move pe.old, Lib.hid Htn.out.skip, by omega, by omega, Nat.le_trans Hat.out (Nat.mul_le_mul_right _ (Nat.le_succ _)), Nat.le_refl _, rfl, by go_num⟩
        ·go_wp2_with fail
         refine (hT (z / 128) _ (by omega) (by omega)).mono ?_
         rintro e w5 ⟨b5, t5, rfl, r5, hf5, hb5⟩
         have bp5 := pe.blk.old hb5
         obtain ⟨q0, q1, q2, q3, q4⟩ := bp5.five
         have e1 := bp5.free 1
         clear p0 p1 p2 p3 p4 g1 g3
         go_wp2_with fail
         go_meet
         exact ⟨rfl, b5, t5, 0, PSt.of sv (pe.old.trans (hb5.mono pe.old.size)) (below_set _ _ _ _) (Nat.le_refl _) (bp5.set 1 _) hf5 (.inl (r5.set_lt hpl (fun b h => Nat.lt_of_le_of_lt h hpl) _)) (.inl rfl)⟩
        ·rcases hrye.kinds with ⟨sz', sg', im', hye, hk0⟩ | ⟨an, au, ac, hye, hk0, hk4, rau⟩ | ⟨tk, hk0, tk1, tk3⟩
         ·go_wp2_with fail
          go_meet
          exact ⟨rfl, _, _, 0, pe⟩
         ·rw [hye] at hfy hry
          have hau := hfy.arr
          clear hye
          go_wp2_with fail
          go_meet
          exact ⟨rfl, we.heap.size, .arr (1 + z / 128 % 6).toNat au, 0, PSt.arr sv pe hry (hwq.trans (pe.old.mono hwq.size)) st.old.size hk4 hau (by omega) (by omega) (by omega)⟩
         ·go_wp2_with fail
          go_meet
          exact ⟨rfl, _, _, 0, pe⟩
        ·rcases hrye.kinds with ⟨sz', sg', im', hye, hk0⟩ | ⟨an, au, ac, hye, hk0, hk4, rau⟩ | ⟨tk, hk0, tk1, tk3⟩
         ·clear hye
          go_wp2_with fail
          refine (intOf_int (z / 128) _ (by omega) (by omega)).mono ?_
          rintro e w5 ⟨b5, t5, rfl, r5, hf5, hb5⟩
          have bp5 := pe.blk.old hb5
          obtain ⟨q0, q1, q2, q3, q4⟩ := bp5.five
          have e1 := bp5.free 1
          have e3 := bp5.free 3
          obtain ⟨s5, hs5, hy5, c52⟩ := r5.int_size hf5
          have hs5a : 1 ≤ s5 := by omega
          have hs5b : s5 ≤ 8 := by omega
          clear p0 p1 p2 p3 p4 g1 g3 hs5
          obtain ⟨bt, hbt, hbt1, hbt2⟩ : ∃ bt : Nat, 1 + z / 1024 % (8 * (s5 : Int)) = (bt : Int) ∧ 1 ≤ bt ∧ bt ≤ 8 * s5 := by
           have hq1 : 0 ≤ z / 1024 % (8 * (s5 : Int)) := Int.emod_nonneg _ (by omega)
           have hq2 : z / 1024 % (8 * (s5 : Int)) < 8 * (s5 : Int) := Int.emod_lt_of_pos _ (by omega)
           exact ⟨(1 + z / 1024 % (8 * (s5 : Int))).toNat, by omega, by omega, by omega⟩
          have hb5ne : b5 ≠ wd.heap.size := fun x => by have := r5.not; omega
          go_wp2_with fail
          go_meet
          obtain ⟨sg5, im5, rfl⟩ := hy5
          exact ⟨rfl, b5, _, bt, PSt.of sv (pe.old.trans (hb5.mono pe.old.size)) ((below_set _ _ _ _).trans (below_set _ _ _ _)) (Nat.le_refl _) ((bp5.set 1 _).set 3 _) (.inl (.int hf5)) (.inl (((r5.set_lt hpl (D := (· < we.heap.size)) (fun b h => h) _).set_lt hpl (fun b h => Nat.lt_of_le_of_lt h hpl) _))) (.inr ⟨s5, sg5, im5, rfl, hbt1, hbt2⟩)⟩
         ·go_wp2_with fail
          go_meet
          exact ⟨rfl, _, _, 0, pe⟩
         ·go_wp2_with fail
          go_meet
          exact ⟨rfl, _, _, 0, pe⟩
        ·go_wp2_with fail
         all_goals
          go_meet
          exact ⟨rfl, _, _, 0, pe⟩
      case rest =>
       obtain ⟨rfl, cb, y, bits, ps⟩ := hcut
       obtain ⟨wf, rfl⟩ : ∃ wf : World, wf = wc := ⟨_, rfl⟩
       have hty := ps.ty.flat
       have hrl := ps.rep.lt
       have hfpl : wd.heap.size < wf.heap.size := ps.blk.lt
       obtain ⟨-, p1, p2, p3, -⟩ := ps.blk.five
       have g2 := ps.blk.free 2
       have g3 := ps.blk.free 3
       go_wp2_with fail
       refine (bytes_any _ cb y _ ps.rep hty.2).mono ?_
       rintro e w6 ⟨rfl, nd6, rfl⟩
       obtain ⟨hty1, -⟩ := hty
       go_upto_if 143 with fail
       go_cut [15] (fun s15 wx => s15 = .int .i64 y.bytes ∧ ∃ a', Placed y ((at_ + 63) / 64 * 64) a' bits ∧ PSt wd wq.heap.size v wd.heap.size (fn jn) cb y a' bits wx)
       case first =>
        rcases ps.bits with hb0 | ⟨sz', sg', im', hye, hb1, hb2⟩
        ·subst hb0
         go_wp2_with fail
         go_meet
         exact ⟨rfl, (at_ + 63) / 64 * 64, ⟨0, (Nat.add_zero _).symm, by omega, .inl ⟨rfl, rfl⟩⟩, ps.set_at (by go_num) nd6⟩
        ·subst hye
         have hb0 : (0 : Int) < bits := by omega
         have hbb : (Ty.int sz' sg' im').bytes = sz' := rfl
         have hsz8 := ps.ty.size
         rw [hbb] at hty1 ⊢
         clear hbb
         obtain ⟨dv, hdv, hd1, hd2⟩ : ∃ dv : Nat, 8 * (sz' : Int) - bits + 1 = (dv : Int) ∧ 1 ≤ dv ∧ dv + bits = 8 * sz' + 1 := ⟨8 * sz' + 1 - bits, by omega, by omega, by omega⟩
         go_wp2_with fail
         refine wp_world (PSt wd wq.heap.size v wd.heap.size (fn jn) cb (.int sz' sg' im') ((at_ + 63) / 64 * 64) bits) (ps.set_at (by go_num) nd6) (fun wh ph => ?_)
         obtain ⟨a1, ha1, ha1b⟩ : ∃ a1 : Nat, (at_ + 63) / 64 * 64 = a1 ∧ a1 ≤ 100063 := ⟨_, rfl, by omega⟩
         rw [ha1] at ph
         obtain ⟨-, -, h2, h3, -⟩ := ph.blk.five
         have f2' := ph.blk.free 2
         clear p1 p2 p3 g2 g3
         have e1 : IntKind.i64.wrap (8 * (sz' : Int)) = 8 * sz' := IntWalk.i64_in _ (by omega)
         have e2 : IntKind.i64.wrap (8 * (sz' : Int) - bits) = 8 * sz' - bits := IntWalk.i64_in _ (by omega)
         have e3 : IntKind.i64.wrap (dv : Int) = dv := IntWalk.i64_in _ (by omega)
         have e4 : IntKind.u32.wrap (dv : Int) = dv := IntWalk.u32_in _ (by omega)
         have e5 : ¬ (dv : Int) = 0 := by omega
         obtain ⟨x, hx, hx2⟩ : ∃ x : Nat, z / 65536 % (dv : Int) = x ∧ x < dv := by
          have q1 := Int.emod_nonneg (z / 65536) (show (dv : Int) ≠ 0 by omega)
          have q2 := Int.emod_lt_of_pos (z / 65536) (show (0 : Int) < dv by omega)
          exact ⟨(z / 65536 % (dv : Int)).toNat, by omega, by omega⟩
         have e6 : IntKind.i64.wrap (x : Int) = x := IntWalk.i64_in _ (by omega)
         have e7 : IntKind.i64.wrap ((a1 : Int) + x) = a1 + x := IntWalk.i64_in _ (by omega)
         have e8 : ¬ dv = 0 := by omega
         have e9 : (z / 65536).tmod (dv : Int) = x := by rw [Int.tmod_eq_emod_of_nonneg (by omega)]; exact hx
         go_still_tail 15, (by kernel_rfl)
         go_wp2_with fail
         go_meet
         exact ⟨rfl, a1 + x, ⟨x, by rw [ha1], by omega, .inr ⟨_, _, _, rfl, hb1, by omega⟩⟩, (ph.put_at (by go_num)).drewN 1⟩
       case rest =>
        obtain ⟨rfl, a', hpl', ps'⟩ := hcut
        obtain ⟨hpl1, hpl2⟩ := hpl'.le
        have hqs := (st.ok jn hjq).1
        have hbo := hpl'.ok ps'.ty.ft (by omega)
        have h7 := u32_mask7 (z / 1048576) (by omega) (by omega)
        obtain ⟨wg, rfl⟩ : ∃ wg : World, wg = wc := ⟨_, rfl⟩
        clear p1 p2 p3 g2 g3
        obtain ⟨p0, p1, p2, p3, p4⟩ := ps'.blk.five
        have hgpl : wd.heap.size < wg.heap.size := ps'.blk.lt
        have g0 := ps'.blk.free 0
        have g1 := ps'.blk.free 1
        have g2 := ps'.blk.free 2
        have g3 := ps'.blk.free 3
        have g4 := ps'.blk.free 4
        go_upto_if 171 with fail
        go_cut [9, 16] (fun s9 s16 wx => ∃ (qn : ByteArray) (qc : Nat) (qy : Ty) (qa qb at' : Nat), s9 = .int .i64 at' ∧ StrPre wq Nowhere FN 200 at_ wq.heap.size nm c v xs' pn' py' pa' pb' pc' wd.heap.size wd.heap.size qn qc qy qa qb wx ∧ at_ ≤ at' ∧ qa ≤ at' ∧ at' ≤ at_ + 1856 ∧ Hid (qn = ⟨#[]⟩ ∨ qn = fn jn))
        case first =>
         by_cases h8 : (z / 1048576 % 8 == 1) = true
         ·go_wp2_with fail
          go_meet
          obtain ⟨y', hpre⟩ := PSt.inner_at (a2 := a' / 64 * 64) (sz := (a' % 64 + 8 * y.bytes + 63) / 64 * 8) (z2 := ↑a' / 64 * 64) (zx := ↑a' % 64) (zs := (↑a' % 64 + 8 * ↑y.bytes + 63) / 64 * 8) sv ps' hqs hbo.2 (by omega) (by omega) (by omega) (by omega) (by omega)
          exact ⟨_, _, y', _, _, (at_ + 63) / 64 * 64 + 64 * ((y.bytes + 7) / 8) + 64, by go_num, hpre, by omega, by omega, by omega, Lib.hid (.inl rfl)⟩
         ·have h9 : (z / 1048576 % 8 == 1) = false := by simpa using h8
          clear h8
          go_wp2_with fail
          go_meet
          exact ⟨_, _, _, _, _, (at_ + 63) / 64 * 64 + 64 * ((y.bytes + 7) / 8), by go_num, PSt.pre sv ps' hqs hbo.1, by omega, hpl2, by omega, Lib.hid (.inr rfl)⟩
        case rest =>
         obtain ⟨qn, qc, qy, qa, qb, at', rfl, pre, hat1, hat2, hat3, Hqn⟩ := hcut
         clear p0 p1 p2 p3 p4 g0 g1 g2 g3 g4 c2 c5' f2 f5 h7 hgpl hfpl
         obtain ⟨p0, p1, p2, p3, p4⟩ := pre.blk.five
         obtain ⟨-, -, -, -, -, q5⟩ := pre.st.blk.six
         have g5 := pre.st.blk.free 5
         have pown := pre.st.own
         have hk63 : c + 1 ≤ maxLen := by unfold maxLen; omega
         have hbase : wq.heap.size + 1 ≤ wc.heap.size := pre.st.blk.lt
         have hlt3 : wq.heap.size < wc.heap.size := pre.st.blk.lt
         have hlt4 : wd.heap.size < wc.heap.size := pre.blk.lt
         go_upto_region 41 with fail
         apply wp_meet (fun g cap' w4 w' => Appended (wc.alloc (.cells #[.string qn, .pointer (some ⟨qc, 0, none⟩), .int .i64 qa, .int .i64 qb, .int .i64 0] 56)).drew (wq.heap.size + 1) 56 5 v c 1 xs' [.string qn, .pointer (some ⟨qc, 0, none⟩), .int .i64 qa, .int .i64 qb, .int .i64 0] g cap' w4 ∧ w' = w4.setCell ⟨wq.heap.size, 5, none⟩ (.slice (some ⟨g, 0, none⟩) (c + 1) cap'))
         ·go_region_law ((refine step_app elemParts (.tmp 206) (.tmp 208) rfl rfl (wq.heap.size + 1) v c xs' rfl (by first | exact pown | exact pown.alloc _) wc.heap.size 1 1 #[.string qn, .pointer (some ⟨qc, 0, none⟩), .int .i64 qa, .int .i64 qb, .int .i64 0] rfl (by first | exact Blk.new _ _ _ | exact (Blk.new _ _ _).drew) rfl rfl (by decide) ?_ (by omega) hk63 (by first | exact hbase | (simp; omega)); intro g cap' w4 ha; have d5 := (Blk.app (b := wq.heap.size) (by first | exact pre.st.blk.alloc _ | exact (pre.st.blk.alloc _).drew) ha (by first | exact pown | exact pown.alloc _) (Nat.lt_succ_self _)).cell 5; have e5 := (Blk.app (b := wq.heap.size) (by first | exact pre.st.blk.alloc _ | exact (pre.st.blk.alloc _).drew) ha (by first | exact pown | exact pown.alloc _) (Nat.lt_succ_self _)).free 5; simp only [List.getElem?_toArray, List.getElem?_cons_succ, List.getElem?_cons_zero] at d5))
          all_goals exact ⟨g, cap', w4, ⟨ha, rfl⟩, rfl⟩
         ·rintro g cap' w4 w' ⟨ha, rfl⟩
          clear p0 p1 p2 p3 p4 q5 g5 hbase hlt3 hlt4 pown hk63
          go_wp2_with fail
          go_roundg (q - (k + 1))
          case measure => omega
          case rel => exact ⟨k + 1, c + 1, at', _, _, _, _, _, _, _, pre.step ha hat1 hat2, Lib.hid (Htn.out.step (fun κ hκ => pick_ne Hd.out hlt hκ) (by rw [← Hjx.out]; exact Hqn.out)), by omega, by omega, at_step Hat.out hat3, Nat.le_refl _, rfl, by go_num⟩
    ·have hwq2 : Below w.heap.size w wq := st.old
     go_wp2_with fail
     go_ret
     exact ⟨wq, _, wq.heap.size, at_, c, v, xs', pn', py', pa', pb', pc', _, rfl, su, (by have := Hq10.out; omega), hatb, hwq2, by go_num, rfl, Htn.out.2⟩
end Nam
end Go.Proofs.YtfilbgmbmlmdbaaGreatDoor
