/- The contract of listed's own function put: a type and all that it is of come into the list. -/
import Derived.Test.YtfilbgmbmlmdbaaGreatDoorZ04
import Derived.Test.YtfilbgmbmlmdbaaGreatDoorZ06
import Derived.Deep.DeepCutAuto
import Derived.Deep.CutBlock
set_option linter.unusedSimpArgs false
set_option linter.unusedVariables false
set_option maxRecDepth 1000000
set_option maxHeartbeats 16000000
namespace Go.Proofs.YtfilbgmbmlmdbaaGreatDoor
open Go.RowKit
theorem put_of (t : Ty) (hkids : Kids t) : PutC t := by
 intro W nb lb pb xb mb ib hb b X n v xs m U w env st r hg rix hn
 obtain ⟨tj, htj, htz⟩ := ptrInfo
 have hz : (zeroValue 3).run Tryz.prog w = .ok (.int .i64 0) w := by simp
 have K := ptr_keys (P := Tryz.prog) (k := 24) w Tryz.underlying24 htj htz
 obtain ⟨hk, hnm, hs, hgg, ho, hv, hbW, hbe⟩ := r.head
 have hbw := st.old.blk hbW hbe
 have hkey : PtrKey w (.pointer (some ⟨b, 0, none⟩)) := ⟨b, _, _, rfl, hbw⟩
 have n0 := env.num.cell 0
 have l0 := st.lst.cell 0
 simp only [List.getElem?_toArray, List.getElem?_cons_zero] at n0 l0
 cases hmb : m (.pointer (some ⟨b, 0, none⟩)) with
 | some u =>
  obtain ⟨b', i, t', e1, e2, hi, -⟩ := st.key _ _ hmb
  subst e2
  go_enter Tryz.func31, Tryz.ntmps31
  go_wp2_with (at_lookup; refine wpList_look rfl _ _ rfl Tryz.underlying67 hz K rfl st.mp st.keys _ rfl hkey _ hmb ?_)
  go_ret
  exact ⟨i, n, v, xs, m, rfl, st, hi, Nat.le_refl _, Nat.le_add_right _ _, fun _ _ => rfl, fun _ _ h => h, hmb, Kept.refl _ _, fun g h => .inl h⟩
 | none =>
  obtain ⟨p0, p1, p2, p3, p4, p5⟩ := hbw.six
  have lf := st.lst.free 0
  have hllt := st.lst.lt
  have hlb : v.ownBlock ≠ some lb := st.not_own st.lo.1 st.lo.2.2.2.2.1
  have hn63 : n + 1 ≤ maxLen := by have := t.cnt_pos; unfold maxLen; omega
  have hcnt := t.cnt_pos
  go_enter Tryz.func31, Tryz.ntmps31
  go_wp2_with (at_lookup; refine wpList_look rfl _ _ rfl Tryz.underlying67 hz K rfl st.mp st.keys _ rfl hkey _ hmb ?_)
  apply wp_meet (fun g cap w4 w' => Appended (w.alloc (.cells #[.int .i64 hk, .string hnm, .int .i64 0, .int .i64 0, .int .i64 0, .int .i64 0, .int .i64 0, .slice none 0 0] 72)).drew 0 72 8 v n 1 xs [.int .i64 hk, .string hnm, .int .i64 0, .int .i64 0, .int .i64 0, .int .i64 0, .int .i64 0, .slice none 0 0] g cap w4 ∧ w' = w4.setCell ⟨lb, 0, none⟩ (.slice (some ⟨g, 0, none⟩) (n + 1) cap))
  ·go_region_law ((refine step_app listParts (.tmp 25) (.tmp 35) rfl rfl 0 v n xs rfl (by first | exact st.own | exact st.own.alloc _) w.heap.size 1 1 #[.int .i64 hk, .string hnm, .int .i64 0, .int .i64 0, .int .i64 0, .int .i64 0, .int .i64 0, .slice none 0 0] rfl (by first | exact Blk.new _ _ _ | exact (Blk.new _ _ _).drew) rfl rfl (by decide) ?_ (by omega) hn63 (Nat.zero_le _); intro g cap w4 ha; have d5 := (Blk.grown (b := lb) (by first | exact st.lst.alloc _ | exact (st.lst.alloc _).drew) ha.2.1 (fun x => hlb x.symm)).cell 0; have e5 := (Blk.grown (b := lb) (by first | exact st.lst.alloc _ | exact (st.lst.alloc _).drew) ha.2.1 (fun x => hlb x.symm)).free 0; simp only [List.getElem?_toArray, List.getElem?_cons_zero] at d5))
   all_goals exact ⟨g, cap, w4, ⟨ha, rfl⟩, rfl⟩
  ·rintro g cap w4 w' ⟨ha, rfl⟩
   have h0 : Below w.heap.size w (w.alloc (.cells #[.int .i64 hk, .string hnm, .int .i64 0, .int .i64 0, .int .i64 0, .int .i64 0, .int .i64 0, .slice none 0 0] 72)).drew := ((Below.refl _ _).alloc (Nat.le_refl _) _).drew
   have hlo := st.lo
   have hbl : b < W.heap.size := hbW.lt
   have hWw := st.old.size
   have hstay := fun k (hk : k < w.heap.size) (ho : v.ownBlock ≠ some k) (hl : k ≠ lb) => app_stay (lb := lb) h0 ha (.slice (some ⟨g, 0, none⟩) (n + 1) cap) hk ho hl
   have hold5 : Old W lb mb hb (w4.setCell ⟨lb, 0, none⟩ (.slice (some ⟨g, 0, none⟩) (n + 1) cap)) :=
    ((st.old.below (h0.mono st.old.size)).grown ha.2.1 (fun k hk => (st.ob k hk).imp (fun h => .inr (.inr h)) id)).set (.inl (.inl rfl)) _
   have hbw5 := hold5.blk hbW hbe
   have nb5 := env.num.of_eq (hstay nb env.num.lt (st.not_own env.ne.1.1 (fun h => env.ne.2.1 (.inr (.inr h)))) (fun h => env.ne.2.1 (.inl h)))
   have mp5 := st.mp.of_eq (hstay mb st.mp.lt (st.not_own hlo.2.1 hlo.2.2.2.2.2) (Ne.symm hlo.2.2.2.1))
   have K5 := ptr_keys (P := Tryz.prog) (k := 24) (w4.setCell ⟨lb, 0, none⟩ (.slice (some ⟨g, 0, none⟩) (n + 1) cap)) Tryz.underlying24 htj htz
   have hkey5 : PtrKey (w4.setCell ⟨lb, 0, none⟩ (.slice (some ⟨g, 0, none⟩) (n + 1) cap)) (.pointer (some ⟨b, 0, none⟩)) := ⟨b, _, _, rfl, hbw5⟩
   have keys5 := st.keysIn hold5
   have l5 : (w4.setCell ⟨lb, 0, none⟩ (.slice (some ⟨g, 0, none⟩) (n + 1) cap)).cell? ⟨lb, 0, none⟩ = some (.slice (some ⟨g, 0, none⟩) (n + 1) cap) :=
    ((Blk.grown (b := lb) (st.lst.old h0) ha.2.1 (fun x => hlb x.symm)).set 0 _).cell 0
   have hent := fun w3 hgr hsz hmp => LSt.enter (w3 := w3) st h0 ha r hg hmb hgr hsz hmp
   obtain ⟨w5, hw5⟩ : ∃ w5, w5 = w4.setCell ⟨lb, 0, none⟩ (.slice (some ⟨g, 0, none⟩) (n + 1) cap) := ⟨_, rfl⟩
   rw [← hw5] at hbw5 nb5 mp5 K5 hkey5 keys5 l5 hent hold5 hstay ⊢
   have n5 := nb5.cell 0
   simp only [List.getElem?_toArray, List.getElem?_cons_zero] at n5
   clear p0 p1 p2 p3 p4 p5 n0 l0 lf hz K hkey hw5
   go_wp2_with (at_mapUpdate; refine wpList_store rfl _ _ _ rfl Tryz.underlying67 K5 rfl mp5 keys5 (.pointer (some ⟨b, 0, none⟩)) (.int .i64 ((n + 1 : Nat) : Int)) rfl rfl hkey5 hmb ?_; intro w6 hgr6 hsz6 hmp6)
   obtain ⟨m1, st6, hm1, hmb1, hkp6, hgo⟩ := hent w6 hgr6 hsz6 hmp6
   have hbw6 := st6.old.blk hbW hbe
   obtain ⟨p0, p1, p2, p3, p4, p5⟩ := hbw6.six
   have hbl6 := hbw6.lt
   clear hent hgr6 hsz6 hmp6 hbw5 nb5 mp5 K5 hkey5 keys5 l5 hold5 hstay n5 ha h0
   go_region_held3 (fun w' => w'.cell? ⟨b, 0, none⟩ = some (.int .i64 hk) ∧ w'.cell? ⟨b, 1, none⟩ = some (.string hnm)) (go_keep) (first | fail)
   have hxi : ∀ g, (X g ∨ g = w6.heap.size) → (X g ∨ w6.heap.size ≤ g) ∧ g < (w6.alloc (.cells #[.int .i64 hk, .string hnm, .int .i64 0, .int .i64 0, .int .i64 0, .int .i64 0, .int .i64 0, .slice none 0 0] 72)).drew.heap.size := fun g hg => by
    show _ ∧ g < (w6.alloc _).heap.size
    simp
    rcases hg with hg | hg
    ·have := (st6.xs g hg).2.1; exact ⟨.inl hg, by omega⟩
    ·exact ⟨.inr (by omega), by omega⟩
   have pre7 : Pre W lb mb (.pointer (some ⟨ib, 0, none⟩)) hb n v xs m U w b (fun g => X g ∨ g = w6.heap.size) (n + 1) (.slice (some ⟨g, 0, none⟩) (n + 1) cap) (xs ++ [.int .i64 hk, .string hnm, .int .i64 0, .int .i64 0, .int .i64 0, .int .i64 0, .int .i64 0, .slice none 0 0]) m1
     (w6.alloc (.cells #[.int .i64 hk, .string hnm, .int .i64 0, .int .i64 0, .int .i64 0, .int .i64 0, .int .i64 0, .slice none 0 0] 72)).drew :=
    (⟨st6, Nat.le_refl _, fun j hj => List.getElem?_append_left (by have := st.own.1; omega), hm1, hmb1, hkp6, fun g' hg' => by
     have e : g = g' := by simpa [Value.ownBlock] using hg'
     exact e ▸ hgo⟩ : Pre W lb mb (.pointer (some ⟨ib, 0, none⟩)) hb n v xs m U w b X (n + 1) _ _ m1 w6).new ((Below.refl _ _).alloc (Nat.le_refl _) _).drew hxi
   have hx7 : Blk (w6.alloc (.cells #[.int .i64 hk, .string hnm, .int .i64 0, .int .i64 0, .int .i64 0, .int .i64 0, .int .i64 0, .slice none 0 0] 72)).drew w6.heap.size #[.int .i64 hk, .string hnm, .int .i64 0, .int .i64 0, .int .i64 0, .int .i64 0, .int .i64 0, .slice none 0 0] 72 := (Blk.new _ _ _).drew
   have hw6 : w.heap.size ≤ w6.heap.size := hkp6.1
   have hlo6 := st6.lo
   have henv7 : Env W nb lb pb xb mb ib hb (w6.alloc (.cells #[.int .i64 hk, .string hnm, .int .i64 0, .int .i64 0, .int .i64 0, .int .i64 0, .int .i64 0, .slice none 0 0] 72)).drew :=
    (env.kept hkp6 st.ob).keep fun g hg _ _ => Below.heap_alloc w6 _ g hg
   obtain ⟨w7, hw7⟩ : ∃ w7, w7 = (w6.alloc (.cells #[.int .i64 hk, .string hnm, .int .i64 0, .int .i64 0, .int .i64 0, .int .i64 0, .int .i64 0, .slice none 0 0] 72)).drew := ⟨_, rfl⟩
   go_upto_block 0 with fail
   rw [← hw7] at pre7 hx7 henv7 ⊢
   clear hxi hkp6 hm1 hmb1 hgo hw7 p0 p1 p2 p3 p4 p5 hbw6
   have hbw7 := pre7.st.old.blk hbW hbe
   obtain ⟨p0, p1, p2, p3, p4, p5⟩ := hbw7.six
   obtain ⟨x0, x1, x2, x3, x4, x5, x6, x7⟩ := hx7.eight
   have f2 := hx7.free 2
   have f3 := hx7.free 3
   have f4 := hx7.free 4
   have f5 := hx7.free 5
   have f6 := hx7.free 6
   have f7 := hx7.free 7
   have hne7 : b ≠ w6.heap.size := by omega
   have hW6 : W.heap.size ≤ w6.heap.size := Nat.le_trans hWw hw6
   obtain ⟨v1, hv1⟩ : ∃ v1, v1 = Value.slice (some ⟨g, 0, none⟩) (n + 1) cap := ⟨_, rfl⟩
   obtain ⟨xs1, hxs1⟩ : ∃ xs1, xs1 = xs ++ [.int .i64 hk, .string hnm, .int .i64 0, .int .i64 0, .int .i64 0, .int .i64 0, .int .i64 0, .slice none 0 0] := ⟨_, rfl⟩
   rw [← hv1, ← hxs1] at pre7
   clear hv1 hxs1 st6
   go_cut [54] (fun s54 wx => Mid W lb mb (.pointer (some ⟨ib, 0, none⟩)) hb n v xs m U w b X w6.heap.size t.cnt wx)
   case first =>
    rcases put_cases r hkids hg hbW with ⟨rfl, hs0, hcn⟩ | ⟨⟨hkk, k1, k3, k4, k5, k6⟩, c, u, rfl, rc, hgc, hpc, hcn⟩ | ⟨rfl, c, u, rfl, rc, hgc, hpc, hpi, hcn⟩ | ⟨rfl, hcn, np, vn, vv, ps, hnp, hown, hpe', hrow⟩ | ⟨⟨hkk, k1, k3⟩, np, pn, py, pa, pb', ps, pc, hnp, hown, hpe', hrow, hkid, hcn⟩
    ·cases hgg
     ·go_wp2_with fail
      go_meet
      exact ⟨n + 1, _, _, m1, _, _, _, _, _, _, _, _, (pre7.write (.inr rfl) hw6 _).less (fun _ h => .inl h), by omega, hx7.set 2 _, by simp [Value.oneCell'], fun zs h => .int hbW (lrow_of h)⟩
     ·go_wp2_with fail
      go_meet
      exact ⟨n + 1, _, _, m1, _, _, _, _, _, _, _, _, ((pre7.write (.inr rfl) hw6 _).write (.inr rfl) hw6 _).less (fun _ h => .inl h), by omega, (hx7.set 2 _).set 3 _, by simp [Value.oneCell'], fun zs h => .int hbW (lrow_of h)⟩
    ·have pre8 := pre7.new (w2 := w7.drew) (Below.refl _ _).drew (fun g hg => ⟨.inl hg, (pre7.st.xs g hg).2.1⟩)
     have hpx : pb ≠ w6.heap.size := by have := henv7.ne.1.2.1; omega
     have henv8 : Env W nb lb pb xb mb ib hb w7.drew := henv7.keep fun _ _ _ _ => rfl
     have hx8 : Blk w7.drew w6.heap.size _ _ := hx7.drew
     have hq := henv8.put.cell 0
     have hp4 := (pre8.st.old.blk hbW hbe).cell 4
     simp only [List.getElem?_toArray, List.getElem?_cons_zero, List.getElem?_cons_succ] at hq hp4
     go_upto_region 11 with fail
     go_region_held3 (fun w' => w'.cell? ⟨pb, 0, none⟩ = some (.func (.func 31) #[] #[.pointer (some ⟨nb, 0, none⟩), .pointer (some ⟨lb, 0, none⟩), .pointer (some ⟨pb, 0, none⟩), .pointer (some ⟨xb, 0, none⟩)]) ∧ w'.cell? ⟨b, 4, none⟩ = some (.pointer (some ⟨c, 0, none⟩)))
      (first | exact ⟨hq, hp4⟩ | assumption | exact qA | exact ⟨(World.cell?_setCell_other _ _ _ _ (fun h => hpx (congrArg Addr.block h).symm)).trans qA.1, (World.cell?_setCell_other _ _ _ _ (fun h => hne7 (congrArg Addr.block h).symm)).trans qA.2⟩)
      (first | (go_at_call 31; refine (hpc W nb lb pb xb mb ib hb c _ _ _ _ _ _ _ henv8 pre8.st rc hgc rix (by omega)).mono ?_; rintro e w8 hpost; obtain ⟨ri, n2, v2, xs2, m2, rfl, p9, hn2, hm2, hme2, hk9, hi2⟩ := pre8.call hpost; have hx9 := hk9.blk hx8 (pre8.st.apart (Or.inr rfl)); have g5 := hx9.cell 5; have f5 := hx9.free 5; have qA := And.intro ((henv8.kept hk9 pre8.st.ob).put.cell 0) ((p9.st.old.blk hbW hbe).cell 4)))
     go_wp2_with fail
     go_meet
     exact ⟨n2, v2, xs2, m2, _, _, _, _, _, _, _, _, (p9.write (.inr rfl) hw6 _).less (fun _ h => .inl h), by omega, hx9.set 5 _, by simp [Value.oneCell'], fun zs h => .of (n := ri + 1) hkk hbW hme2 (lrow_of h)⟩
    ·have pre8 := pre7.new (w2 := w7.drew) (Below.refl _ _).drew (fun g hg => ⟨.inl hg, (pre7.st.xs g hg).2.1⟩)
     have hpx : pb ≠ w6.heap.size := by have := henv7.ne.1.2.1; omega
     have hxx : xb ≠ w6.heap.size := by have := henv7.ne.1.2.2; omega
     have henv8 : Env W nb lb pb xb mb ib hb w7.drew := henv7.keep fun _ _ _ _ => rfl
     have hx8 : Blk w7.drew w6.heap.size _ _ := hx7.drew
     have hS : ∀ w', Env W nb lb pb xb mb ib hb w' → Old W lb mb hb w' → w'.cell? ⟨pb, 0, none⟩ = some (.func (.func 31) #[] #[.pointer (some ⟨nb, 0, none⟩), .pointer (some ⟨lb, 0, none⟩), .pointer (some ⟨pb, 0, none⟩), .pointer (some ⟨xb, 0, none⟩)]) ∧ w'.cell? ⟨b, 4, none⟩ = some (.pointer (some ⟨c, 0, none⟩)) ∧ w'.cell? ⟨b, 2, none⟩ = some (.int .i64 hs) ∧ w'.cell? ⟨xb, 0, none⟩ = some (.pointer (some ⟨ib, 0, none⟩)) :=
      fun w' he ho => ⟨he.put.cell 0, (ho.blk hbW hbe).cell 4, (ho.blk hbW hbe).cell 2, he.idx.cell 0⟩
     have hq := hS _ henv8 pre8.st.old
     go_upto_region 17 with fail
     go_region_held3 (fun w' => w'.cell? ⟨pb, 0, none⟩ = some (.func (.func 31) #[] #[.pointer (some ⟨nb, 0, none⟩), .pointer (some ⟨lb, 0, none⟩), .pointer (some ⟨pb, 0, none⟩), .pointer (some ⟨xb, 0, none⟩)]) ∧ w'.cell? ⟨b, 4, none⟩ = some (.pointer (some ⟨c, 0, none⟩)) ∧ w'.cell? ⟨b, 2, none⟩ = some (.int .i64 hs) ∧ w'.cell? ⟨xb, 0, none⟩ = some (.pointer (some ⟨ib, 0, none⟩)))
      (first | exact hq | exact hqA | exact hqB | (refine ⟨?_, ?_, ?_, ?_⟩ <;> (first | rw [World.cell?_setCell_other _ _ _ _ (fun h => hpx (congrArg Addr.block h).symm)] | rw [World.cell?_setCell_other _ _ _ _ (fun h => hne7 (congrArg Addr.block h).symm)] | rw [World.cell?_setCell_other _ _ _ _ (fun h => hxx (congrArg Addr.block h).symm)]) <;> go_keep))
      (first
       | (go_at_call 31; refine (hpi W nb lb pb xb mb ib hb ib _ _ _ _ _ _ _ henv9 p9.st rix (.int (by omega)) rix (by rw [PutC.int_cnt]; omega)).mono ?_; rintro e w10 hpost2; obtain ⟨ri2, n3, v3, xs3, m3, rfl, p11, hn3, hm3, hme3, hk11, hi3⟩ := p9.call hpost2; have hx11 := hk11.blk hx9 (p9.st.apart (Or.inr rfl)); have g2 := hx11.cell 2; have g5 := hx11.cell 5; have g6 := hx11.cell 6; have f2 := hx11.free 2; have f5 := hx11.free 5; have f6 := hx11.free 6; have hqB := hS _ (henv9.kept hk11 p9.st.ob) p11.st.old)
       | (go_at_call 31; refine (hpc W nb lb pb xb mb ib hb c _ _ _ _ _ _ _ henv8 pre8.st rc hgc rix (by omega)).mono ?_; rintro e w8 hpost; obtain ⟨ri, n2, v2, xs2, m2, rfl, p9, hn2, hm2, hme2, hk9, hi2⟩ := pre8.call hpost; have hx9 := hk9.blk hx8 (pre8.st.apart (Or.inr rfl)); have henv9 := henv8.kept hk9 pre8.st.ob; have hqA := hS _ henv9 p9.st.old))
     go_wp2_with fail
     go_meet
     exact ⟨n3, v3, xs3, m3, _, _, _, _, _, _, _, _, (((p11.write (.inr rfl) hw6 _).write (.inr rfl) hw6 _).write (.inr rfl) hw6 _).less (fun _ h => .inl h), by rw [PutC.int_cnt] at hn3; omega, ((hx11.set 2 _).set 5 _).set 6 _, by simp [Value.oneCell'], fun zs h => .arr (n := ri + 1) (x := ri2 + 1) hbW (hm3 _ _ hme2) hme3 (lrow_of h)⟩
    ·obtain ⟨pa0, pcap, rfl⟩ := own_slice hown
     go_upto_if 136 with fail
     go_cut [54] (fun s54 wx => MemSt W lb mb (.pointer (some ⟨ib, 0, none⟩)) hb n v xs m U w b X w6.heap.size 6 hnm hs (if hgg then 1 else 0) 0 (n + 1) v1 xs1 m1 (.slice none 0 0) [] wx)
     case first =>
      cases hgg
      ·go_wp2_with fail
       go_meet
       exact .start (pre7.write (.inr rfl) hw6 _) (hx7.set 2 _) hw6 (fun g hg => (st.xs g hg).2.1)
      ·go_wp2_with fail
       go_meet
       exact .start ((pre7.write (.inr rfl) hw6 _).write (.inr rfl) hw6 _) ((hx7.set 2 _).set 4 _) hw6 (fun g hg => (st.xs g hg).2.1)
     case rest =>
      obtain ⟨wd, rfl⟩ : ∃ wd : World, wd = wc := ⟨_, rfl⟩
      clear p0 p1 p2 p3 p4 p5 x0 x1 x2 x3 x4 x5 x6 x7 f2 f3 f4 f5 f6 f7
      have p5 := (hcut.pre.st.old.blk hbW hbe).cell 5
      simp only [List.getElem?_toArray, List.getElem?_cons_zero, List.getElem?_cons_succ] at p5
      go_wp2_with fail
      go_loopg [143] np (fun gk s143 wr => ∃ k mv ys, MemSt W lb mb (.pointer (some ⟨ib, 0, none⟩)) hb n v xs m U w b X w6.heap.size 6 hnm hs (if hgg then 1 else 0) k (n + 1) v1 xs1 m1 mv ys wr ∧ EnmRows W (.slice pa0 np pcap) k ys ∧ k ≤ np ∧ np - k ≤ gk ∧ s143 = .int .i64 (k : Nat))
      case atStart => exact ⟨0, _, [], hcut, fun j h => by omega, Nat.zero_le _, Nat.le_refl _, rfl⟩
      case round =>
       obtain ⟨k, mv, ys, ms, hrows, hk, hgk, rfl⟩ := hrel
       by_cases hlt : k < np
       ·obtain ⟨pg, pcap', hpe, hpgl⟩ := own_form hown (by omega)
        simp only [Value.slice.injEq] at hpe
        obtain ⟨rfl, -, rfl⟩ := hpe
        have hownr : wr.ownsRow 0 56 5 (.slice (some ⟨pg, 0, none⟩) np pcap) np ps := ms.pre.st.old.own hown hpe'
        obtain ⟨q0, q1, q2, q3, q4⟩ := row_cells hownr (hrow k hlt)
        have hpart := PartAt.of hown (hrow k hlt) hlt
        have y7 := ms.blk.cell 7
        have yf7 := ms.blk.free 7
        have hxkl : w6.heap.size + 1 ≤ wr.heap.size := ms.blk.lt
        have hxk2 : w6.heap.size < wr.heap.size := ms.blk.lt
        have hpgl2 : pg < wr.heap.size := Nat.lt_of_lt_of_le hpgl ms.pre.st.old.size
        simp only [List.getElem?_toArray, List.getElem?_cons_zero, List.getElem?_cons_succ] at y7
        go_wp2_with (at_builtin; refine wpList_app memParts (.tmp 148) (.tmp 154) rfl rfl (w6.heap.size + 1) mv k ys rfl ((ms.own.alloc _).alloc _) (wr.heap.size + 1) 1 1 _ rfl (Blk.newAt _ _ _ (by simp)) rfl rfl (by decide) ?_ ?ka1 ?ka2 ?ka3; intro g1 cap1 w9 ha9; have z7 := (((ms.blk.alloc _).alloc _).app ha9 ((ms.own.alloc _).alloc _) (Nat.lt_succ_self _)).cell 7; have zf7 := (((ms.blk.alloc _).alloc _).app ha9 ((ms.own.alloc _).alloc _) (Nat.lt_succ_self _)).free 7; simp only [List.getElem?_toArray, List.getElem?_cons_zero, List.getElem?_cons_succ] at z7; clear y7 yf7)
        case ka1 => omega
        case ka2 => unfold maxLen; omega
        case ka3 => simp; omega
        go_roundg (np - (k + 1))
        case measure => omega
        case rel => exact ⟨k + 1, _, _, ms.push (((Below.refl _ _).alloc (Nat.le_refl _) _).alloc (by simp) _) ha9, hrows.push ms.own.1 hpart, hlt, Nat.le_refl _, by go_num⟩
       ·obtain rfl : k = np := by omega
        go_wp2_with fail
        go_meet
        exact ⟨n + 1, v1, xs1, m1, _, _, _, _, _, _, _, _, ms.pre.less (fun _ h => .inl h), by omega, ms.blk, by obtain ⟨_, _, rfl⟩ := own_slice ms.own; simp [Value.oneCell'], fun zs h => .enm hbW ⟨_, _, rfl⟩ (ownsRow_base ms.own (Nat.zero_le _)) ms.hv hrows (lrow_of h)⟩
    ·obtain ⟨pa0, pcap, rfl⟩ := own_slice hown
     have xlt := fun g hg => (st.xs g hg).2.1
     go_upto_if 92 with fail
     go_cut [92] (fun s92 wx => s92 = .bool true ∧ wx = w7)
     case first =>
      rcases hkk with rfl | rfl
      all_goals
       go_wp2_with fail
       go_meet
       exact ⟨rfl, rfl⟩
     case rest =>
      obtain ⟨rfl, rfl⟩ := hcut
      go_wp2_with fail
      go_loopg [105] np (fun gk s105 wr => ∃ k n' v' xs' m' mv ys, MemSt W lb mb (.pointer (some ⟨ib, 0, none⟩)) hb n v xs m U w b X w6.heap.size hk hnm hs 0 k n' v' xs' m' mv ys wr ∧ Env W nb lb pb xb mb ib hb wr ∧ CompRows W (.slice pa0 np pcap) m' k ys ∧ n' ≤ n + 1 + sumTo (fun i => (py i).cnt) k ∧ k ≤ np ∧ np - k ≤ gk ∧ s105 = .int .i64 (k : Nat))
      case atStart => exact ⟨0, n + 1, v1, xs1, m1, _, [], .start (pre7.write (.inr rfl) hw6 _) (hx7.set 2 _) hw6 xlt, henv7.keep (fun g _ h _ => Below.heap_setCell _ _ _ _ (by show g ≠ w6.heap.size; omega)), fun j h => by omega, Nat.le_refl _, Nat.zero_le _, Nat.le_refl _, rfl⟩
      case round =>
       obtain ⟨k, n', v', xs', m', mv, ys, ms, envr, hrows, hnc, hk', hgk, rfl⟩ := hrel
       clear p0 p1 p2 p3 p4 p5 x0 x1 x2 x3 x4 x5 x6 x7 f2 f3 f4 f5 f6 f7
       by_cases hlt : k < np
       ·obtain ⟨pg, pcap', hpe, hpgl⟩ := own_form hown (by omega)
        simp only [Value.slice.injEq] at hpe
        obtain ⟨rfl, -, rfl⟩ := hpe
        have hownr : wr.ownsRow 0 56 5 (.slice (some ⟨pg, 0, none⟩) np pcap) np ps := ms.pre.st.old.own hown hpe'
        obtain ⟨q0, q1, q2, q3, q4⟩ := row_cells hownr (hrow k hlt)
        have hpart := PartAt.of hown (hrow k hlt) hlt
        have hpgl2 : pg < wr.heap.size := Nat.lt_of_lt_of_le hpgl ms.pre.st.old.size
        have hsum := sumTo_mono (fun i => (py i).cnt) (show k + 1 ≤ np from hlt)
        simp only [sumTo] at hsum
        go_upto_region 24 with fail
        have hB8 : Below wr.heap.size wr (wr.alloc (.cells #[.string (pn k), .pointer (some ⟨pc k, 0, none⟩), .int .i64 (pa k), .int .i64 (pb' k), .int .i64 0] 56)).drew := ((Below.refl _ _).alloc (Nat.le_refl _) _).drew
        have ms8 := ms.new hB8
        have env8 : Env W nb lb pb xb mb ib hb (wr.alloc (.cells #[.string (pn k), .pointer (some ⟨pc k, 0, none⟩), .int .i64 (pa k), .int .i64 (pb' k), .int .i64 0] 56)).drew := envr.keep fun g hg _ _ => hB8.block g hg
        have hp8 : Blk (wr.alloc (.cells #[.string (pn k), .pointer (some ⟨pc k, 0, none⟩), .int .i64 (pa k), .int .i64 (pb' k), .int .i64 0] 56)).drew wr.heap.size _ _ := (Blk.new _ _ _).drew
        have hpw : ¬ Wr lb mb v' wr.heap.size := fun h => by
         have h1 := ms.pre.st.lst.lt
         have h2 := ms.pre.st.mp.lt
         rcases h with h | h | h
         ·omega
         ·omega
         ·have := (ms.pre.st.own.lt _ h).2; omega
        have hpbb := envr.ne.1.2.1
        have hSof : ∀ w', Blk w' w6.heap.size #[.int .i64 hk, .string hnm, .int .i64 hs, .int .i64 0, .int .i64 0, .int .i64 0, .int .i64 0, mv] 72 → Blk w' pb #[.func (.func 31) #[] #[.pointer (some ⟨nb, 0, none⟩), .pointer (some ⟨lb, 0, none⟩), .pointer (some ⟨pb, 0, none⟩), .pointer (some ⟨xb, 0, none⟩)]] 68 → Blk w' wr.heap.size #[.string (pn k), .pointer (some ⟨pc k, 0, none⟩), .int .i64 (pa k), .int .i64 (pb' k), .int .i64 0] 56 → w'.cell? ⟨w6.heap.size, 7, none⟩ = some mv ∧ w'.cell? ⟨pb, 0, none⟩ = some (.func (.func 31) #[] #[.pointer (some ⟨nb, 0, none⟩), .pointer (some ⟨lb, 0, none⟩), .pointer (some ⟨pb, 0, none⟩), .pointer (some ⟨xb, 0, none⟩)]) ∧ w'.cell? ⟨wr.heap.size, 0, none⟩ = some (.string (pn k)) ∧ w'.cell? ⟨wr.heap.size, 1, none⟩ = some (.pointer (some ⟨pc k, 0, none⟩)) ∧ w'.cell? ⟨wr.heap.size, 2, none⟩ = some (.int .i64 (pa k)) ∧ w'.cell? ⟨wr.heap.size, 3, none⟩ = some (.int .i64 (pb' k)) :=
         fun w' h1 h2 h3 => ⟨h1.cell 7, h2.cell 0, h3.cell 0, h3.cell 1, h3.cell 2, h3.cell 3⟩
        refine AnyBut.start (S := (fun w' => w'.cell? ⟨w6.heap.size, 7, none⟩ = some mv ∧ w'.cell? ⟨pb, 0, none⟩ = some (.func (.func 31) #[] #[.pointer (some ⟨nb, 0, none⟩), .pointer (some ⟨lb, 0, none⟩), .pointer (some ⟨pb, 0, none⟩), .pointer (some ⟨xb, 0, none⟩)]) ∧ w'.cell? ⟨wr.heap.size, 0, none⟩ = some (.string (pn k)) ∧ w'.cell? ⟨wr.heap.size, 1, none⟩ = some (.pointer (some ⟨pc k, 0, none⟩)) ∧ w'.cell? ⟨wr.heap.size, 2, none⟩ = some (.int .i64 (pa k)) ∧ w'.cell? ⟨wr.heap.size, 3, none⟩ = some (.int .i64 (pb' k)))) (t := 16) (by as_aux_lemma => kernel_rfl) (hSof _ ms8.blk env8.put hp8) (fun hHeld => ?_)
        refine AnyBut.tk (i := 0) (v := ?_) rfl (by as_aux_lemma => kernel_rfl) (fun _ _ _ h => h) hHeld (by rfl) ?_ ?_
        rotate_left
        focus (intro w hSw; (try dsimp only at hSw); go_simp <;> with_reducible rfl)
        try simp only [Act.put, zl4, zl5, zl6]
        refine AnyBut.tk (i := 1) (v := ?_) rfl (by as_aux_lemma => kernel_rfl) (fun _ _ _ h => h) hHeld (by rfl) ?_ ?_
        rotate_left
        focus (intro w hSw; (try dsimp only at hSw); go_simp <;> with_reducible rfl)
        try simp only [Act.put, zl4, zl5, zl6]
        refine AnyBut.tk (i := 2) (v := ?_) rfl (by as_aux_lemma => kernel_rfl) (fun _ _ _ h => h) hHeld (by rfl) ?_ ?_
        rotate_left
        focus (intro w hSw; (try dsimp only at hSw); go_simp <;> with_reducible rfl)
        try simp only [Act.put, zl4, zl5, zl6]
        refine AnyBut.tk (i := 3) (v := ?_) rfl (by as_aux_lemma => kernel_rfl) (fun _ _ _ h => h) hHeld (by rfl) ?_ ?_
        rotate_left
        focus (intro w hSw; (try dsimp only at hSw); go_simp <;> with_reducible rfl)
        try simp only [Act.put, zl4, zl5, zl6]
        refine AnyBut.tk (i := 4) (v := ?_) rfl (by as_aux_lemma => kernel_rfl) (fun _ _ _ h => h) hHeld (by rfl) ?_ ?_
        rotate_left
        focus (intro w hSw; (try dsimp only at hSw); go_simp <;> with_reducible rfl)
        try simp only [Act.put, zl4, zl5, zl6]
        refine AnyBut.tk (i := 5) (v := ?_) rfl (by as_aux_lemma => kernel_rfl) (fun _ _ _ h => h) hHeld (by rfl) ?_ ?_
        rotate_left
        focus (intro w hSw; (try dsimp only at hSw); go_simp <;> with_reducible rfl)
        try simp only [Act.put, zl4, zl5, zl6]
        refine AnyBut.tk (i := 6) (v := ?_) rfl (by as_aux_lemma => kernel_rfl) (fun _ _ _ h => h) hHeld (by rfl) ?_ ?_
        rotate_left
        focus (intro w hSw; (try dsimp only at hSw); go_simp <;> with_reducible rfl)
        try simp only [Act.put, zl4, zl5, zl6]
        refine AnyBut.tk (i := 8) (v := ?_) rfl (by as_aux_lemma => kernel_rfl) (fun _ _ _ h => h) hHeld (by rfl) ?_ ?_
        rotate_left
        focus (intro w hSw; (try dsimp only at hSw); go_simp <;> with_reducible rfl)
        try simp only [Act.put, zl4, zl5, zl6]
        refine AnyBut.tk (i := 9) (v := ?_) rfl (by as_aux_lemma => kernel_rfl) (fun _ _ _ h => h) hHeld (by rfl) ?_ ?_
        rotate_left
        focus (intro w hSw; (try dsimp only at hSw); go_simp <;> with_reducible rfl)
        try simp only [Act.put, zl4, zl5, zl6]
        refine AnyBut.tk (i := 10) (v := ?_) rfl (by as_aux_lemma => kernel_rfl) (fun _ _ _ h => h) hHeld (by rfl) ?_ ?_
        rotate_left
        focus (intro w hSw; (try dsimp only at hSw); go_simp <;> with_reducible rfl)
        try simp only [Act.put, zl4, zl5, zl6]
        refine AnyBut.tk (i := 11) (v := ?_) rfl (by as_aux_lemma => kernel_rfl) (fun _ _ _ h => h) hHeld (by rfl) ?_ ?_
        rotate_left
        focus (intro w hSw; (try dsimp only at hSw); go_simp <;> with_reducible rfl)
        try simp only [Act.put, zl4, zl5, zl6]
        refine AnyBut.one (i := 7) (by as_aux_lemma => kernel_rfl) rfl (fun K hK => ?_)
        go_simp
        go_at_call 31
        refine ((hkid k hlt).2.2 W nb lb pb xb mb ib hb (pc k) _ _ _ _ _ _ _ env8 ms8.pre.st (hkid k hlt).1 (hkid k hlt).2.1 rix (by omega)).mono ?_
        rintro e w9 hpost
        obtain ⟨ri, n2, v2, xs2, m2, rfl, ms9, hn2, hm2, hme2, hk9⟩ := ms8.call hpost
        have env9 := env8.kept hk9 ms8.pre.st.ob
        have hp9 := hk9.blk hp8 hpw
        have hS9 := hSof w9 ms9.blk env9.put hp9
        have hxk9 : w6.heap.size + 1 ≤ w9.heap.size := ms9.blk.lt
        refine hK.out _ _ (hS9) (fun hHeld => ?_)
        clear hK K
        try simp only [Act.put, zl4, zl5, zl6]
        refine AnyBut.tk (i := 12) (v := ?_) rfl (by as_aux_lemma => kernel_rfl) (fun _ _ _ h => h) hHeld (by rfl) ?_ ?_
        rotate_left
        focus (intro w hSw; (try dsimp only at hSw); go_simp <;> with_reducible rfl)
        try simp only [Act.put, zl4, zl5, zl6]
        refine AnyBut.one (i := 13) (by as_aux_lemma => kernel_rfl) rfl (fun K hK => ?_)
        go_simp
        refine hK.out _ _ (hSof _ (ms9.blk.alloc _) (env9.put.alloc _) (hp9.alloc _)) (fun hHeld => ?_)
        clear hK K
        try simp only [Act.put, zl4, zl5, zl6]
        refine AnyBut.one (i := 14) (by as_aux_lemma => kernel_rfl) rfl (fun K hK => ?_)
        refine step_app memParts (.tmp 110) (.tmp 122) rfl rfl (w6.heap.size + 1) mv k ys rfl (ms9.own.alloc _) w9.heap.size 1 1 #[.string (pn k), .int .i64 ((ri : Nat) + 1), .int .i64 (pa k), .int .i64 (pb' k), .int .i64 0] rfl (Blk.new _ _ _) rfl rfl (by decide) ?_ (by omega) (by unfold maxLen; omega) (by simp; omega)
        intro g1 cap1 w10 ha10
        have hx10 := (ms9.blk.alloc _).app ha10 (ms9.own.alloc _) (Nat.lt_succ_self _)
        have env10 := (env9.keep fun g hg _ _ => Below.heap_alloc w9 _ g hg : Env W nb lb pb xb mb ib hb (w9.alloc _)).put.grown ha10.2.1 (fun x => by have := (ms9.own.lt pb x.symm).1; omega)
        have hp10 := (hp9.alloc _).grown ha10.2.1 (fun x => by have := (ms.own.lt _ x.symm).2; omega)
        have z7 := hx10.cell 7
        have zf7 := hx10.free 7
        simp only [List.getElem?_toArray, List.getElem?_cons_zero, List.getElem?_cons_succ] at z7
        refine hK.out _ _ (hSof _ hx10 env10 hp10) (fun hHeld => ?_)
        clear hK K
        try simp only [Act.put, zl4, zl5, zl6]
        refine AnyBut.tk (i := 15) (v := ?_) rfl (by as_aux_lemma => kernel_rfl) (fun _ _ _ h => h) hHeld (by rfl) ?_ ?_
        rotate_left
        focus (intro w hSw; (try dsimp only at hSw); go_simp <;> with_reducible rfl)
        try simp only [Act.put, zl4, zl5, zl6]
        refine AnyBut.last (by as_aux_lemma => kernel_rfl) rfl (by as_aux_lemma => kernel_rfl) (fun K hK => ?_)
        go_simp
        refine hK.out _ _ ?_
        clear hK K
        try simp only [Act.put, zl4, zl5, zl6]
        go_wp2_with fail
        go_roundg (np - (k + 1))
        case measure => omega
        case rel => exact ⟨k + 1, n2, v2, xs2, m2, _, _, ms9.push ((Below.refl _ _).alloc (Nat.le_refl _) _) ha10, (env9.keep fun g hg h _ => (by rw [Below.heap_setCell _ _ _ _ (by show g ≠ w6.heap.size; omega), ha10.2.1.block g (by simp; omega) (fun x => by have := (ms9.own.lt g x.symm).1; omega), Below.heap_alloc w9 _ g hg])), hrows.push hm2 ms.own.1 (q := ri + 1) hpart hme2, by simp only [sumTo]; omega, hlt, Nat.le_refl _, by go_num⟩
       ·obtain rfl : k = np := by omega
        go_wp2_with fail
        go_meet
        exact ⟨n', v', xs', m', _, _, _, _, _, _, _, _, ms.pre.less (fun _ h => .inl h), by omega, ms.blk, by obtain ⟨_, _, rfl⟩ := own_slice ms.own; simp [Value.oneCell'], fun zs h => .comp hkk hbW ⟨_, _, rfl⟩ (ownsRow_base ms.own (Nat.zero_le _)) ms.hv hrows (lrow_of h)⟩
   case rest =>
    obtain ⟨gg, nn, gcap, a0, a1, a2, a3, a4, a5, a6, a7, hl, hnn, hxk, hone, hth, hpost⟩ := hcut.done (fun h => by have := st.kind n h; omega)
    have l0 := hl.cell 0
    simp only [List.getElem?_toArray, List.getElem?_cons_zero] at l0
    obtain ⟨y0, y1, y2, y3, y4, y5, y6, y7⟩ := hxk.eight
    clear p0 p1 p2 p3 p4 p5 x0 x1 x2 x3 x4 x5 x6 x7 f2 f3 f4 f5 f6 f7
    have hsz8 : (Tryz.prog.info? 72).map (·.size) = some (#[a0, a1, a2, a3, a4, a5, a6, a7] : Array Value).size := by kernel_rfl
    go_wp2_with (refine wpList_store_mid rfl 72 (.tmp 162) (.tmp 161) rfl gg (n * 8) #[a0, a1, a2, a3, a4, a5, a6, a7] rfl rfl hth hsz8 hone ?_)
    go_ret
    exact hpost
theorem put_any : ∀ t : Ty, PutC t
 | .int .. => put_of _ trivial
 | .ptr t => put_of _ (put_any t)
 | .arr _ t => put_of _ ⟨put_any t, put_of _ trivial⟩
 | .named _ t => put_of _ (put_any t)
 | .cst t => put_of _ (put_any t)
 | .enm .. => put_of _ trivial
 | .comp _ _ _ _ _ py _ _ => put_of _ (fun i _ => put_any (py i))
end Go.Proofs.YtfilbgmbmlmdbaaGreatDoor
