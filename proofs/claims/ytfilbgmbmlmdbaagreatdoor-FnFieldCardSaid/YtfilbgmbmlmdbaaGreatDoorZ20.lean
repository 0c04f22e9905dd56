/- The package's search for a member by its name: the walk. Nothing is claimed here. -/
import Derived.Test.YtfilbgmbmlmdbaaGreatDoorZ19
set_option linter.unusedSimpArgs false
set_option linter.unusedVariables false
set_option maxRecDepth 1000000
set_option maxHeartbeats 16000000
namespace Go.Proofs.YtfilbgmbmlmdbaaGreatDoor
open Go.RowKit Go.MapKept
abbrev mem0 : Array Value := #[.string ⟨#[]⟩, .nilIface, .int .u32 0, .int .u32 0, .slice none 0 0]
def MemRes (n : Nat) (f : Nat → RowD) (pt : Nat → TypeId) (ob : Nat → Nat) (nm : ByteArray) (ev : Value) (r : Option Hit) (e : Ending) : Prop := match r with
 | some h => ∃ j, j < n ∧ RT f j h.y ∧ e = .returned (.tuple #[.agg #[.string nm, objAt pt ob j, .int .u32 (h.at_ : Nat), .int .u32 (h.bits : Nat), .slice none 0 0], .bool h.last, .nilIface])
 | none => e = .returned (.tuple #[.agg mem0, .bool false, ev])
theorem findMember_any {W : World} {n og i0 : Nat} {f : Nat → RowD} {pt : Nat → TypeId} {ob : Nat → Nat} {t : Ty} {nm : ByteArray} {ev : Value} (hO : Outs W n f og pt ob) (hP : Peels n f) (hR : Refs n f) (hi0 : i0 < n) (r : RT f i0 t) (hs : Shp t) (hnm : nm.size ≠ 0) (hev : W.cell? ⟨4, 0, none⟩ = some ev) :
  Calls Tryz.prog 83 #[objAt pt ob i0, .string nm] W fun e w' => MemRes n f pt ob nm ev (findP nm t) e ∧ Below W.heap.size W w' := by
 obtain ⟨un, tn, sz, nn, pn, py, pa, pb, rfl, hn, hpb, hsh⟩ := hs
 obtain ⟨LL, hLL⟩ : ∃ LL, LL = (Ty.comp un tn sz nn pn py pa pb, 0) :: anonU pn py pa nn 0 := ⟨_, rfl⟩
 have hF : findP nm (.comp un tn sz nn pn py pa pb) = LL.findSome? (hit nm) := by rw [hLL]; rfl
 have hLn : LL.length ≤ 21 := by rw [hLL, List.length_cons]; have := anonU_len pn py pa 0 nn; omega
 have hL0 : LL[0]? = some (Ty.comp un tn sz nn pn py pa pb, 0) := by rw [hLL]; rfl
 rw [hF]
 have hL1 : 1 ≤ LL.length := (List.getElem?_eq_some_iff.1 hL0).1
 have le := World.block_lt_of_cell? W _ hev
 simp only at le
 have hnf := name_full2 hnm
 have HSH := Lib.hid hsh
 have HPB := Lib.hid hpb
 have HR0 := Lib.hid r
 have HLL := Lib.hid hLL
 have HL0 := Lib.hid hL0
 have HO := Lib.hid hO
 have HP := Lib.hid hP
 have HREF := Lib.hid hR
 have HEV := Lib.hid hev
 have HNM := Lib.hid hnm
 have hmk := @run_makeMap Tryz.prog
 clear hF hLL hL0 hsh hpb r hO hP hR hev hnm
 obtain ⟨wA, rfl⟩ : ∃ wA : World, wA = W := ⟨_, rfl⟩
 go_enter Tryz.func83, Tryz.ntmps83
 go_wp2_with fail
 obtain ⟨mb, hmb⟩ : ∃ mb, mb = wA.heap.size + 1 + 1 := ⟨_, rfl⟩
 rw [← hmb]
 have HMB := Lib.hid hmb
 clear hmb
 go_loopg [7, 9] (LL.length) (fun gk s7 s9 wr => ∃ (k m : Nat) (v : Value) (xs : List Value) (mm : Value → Option Value), Hid (TLst n f pt ob LL (wA.heap.size + 1) m v xs wr) ∧ v = s7 ∧ s9 = .int .i64 (k : Int) ∧ k ≤ m ∧ m ≤ LL.length ∧ LL.length - k ≤ gk ∧ Hid ((k = 0 ∧ m = 1) ∨ (1 ≤ k ∧ m = LL.length)) ∧
  Hid (∀ k', k' < k → ∀ p, LL[k']? = some p → hit nm p = none) ∧ Hid (Blk wr wA.heap.size mem0 189) ∧ Hid (VMap n f pt ob nm mb k mm wr) ∧ Hid (Below wA.heap.size wA wr) ∧ Hid (v.ownBlock ≠ some mb))
 case atStart =>
  refine ⟨0, 1, _, [objAt pt ob i0, .int .u32 0], fun _ => none, Lib.hid ⟨⟨rfl, .inr ⟨wA.heap.size + 1, 1, _, rfl, Nat.le_refl _, (Blk.newAt _ _ _ (by simp)).alloc _, Nat.le_refl _, by decide, rfl, rfl⟩⟩, fun i hi => ?_⟩, rfl, rfl, Nat.zero_le _, hL1, by omega, Lib.hid (.inl ⟨rfl, rfl⟩), Lib.hid (fun k' h => absurd h (Nat.not_lt_zero k')), Lib.hid (((Blk.new _ _ _).alloc _).alloc _), Lib.hid ⟨MapN.newAt _ (by rw [HMB.out]; simp), fun _ _ h => by cases h⟩, Lib.hid ((((Below.refl _ _).alloc (Nat.le_refl _) _).alloc (by simp) _).alloc (by simp; omega) _), Lib.hid (fun e => by have := HMB.out; simp [Value.ownBlock] at e; omega)⟩
  obtain rfl : i = 0 := by omega
  exact ⟨i0, _, 0, HL0.out, ⟨un, tn, sz, nn, pn, py, pa, pb, rfl, hn, Nat.zero_le _, HPB.out⟩, hi0, HR0.out, rfl, rfl⟩
 case round =>
  obtain ⟨k, m, v, xs, mm, LS, rfl, rfl, hkm, hmL, hgk, HK, HN, HZ, HV, HB, HM⟩ := hrel
  by_cases hlt : k < m
  ·obtain ⟨g1, c1, rfl, hg1⟩ := own_form LS.out.own (by omega)
   obtain ⟨r, x, o, hLk, hT, hrn, hrt, hx0, hx1⟩ := LS.out.row k hlt
   obtain ⟨un', tn', sz', n', pn', py', pa', pb', rfl, hn', ho', hpb'⟩ := hT
   have f0 := own_cell LS.out.own hx0
   have f1 := own_cell LS.out.own hx1
   rw [Nat.mul_comm] at f0 f1
   obtain ⟨hpt, u, ucap, pc, F, hmc, hmem⟩ := HO.out.compC HREF.out hrn hrt
   have HRT := Lib.hid hrt
   have HLK := Lib.hid hLk
   have HPB' := Lib.hid hpb'
   have HMEM := Lib.hid hmem
   have HMC := Lib.hid hmc
   have HRN := Lib.hid hrn
   have HS0 : Hid (k = 0 → n' = nn ∧ pn' = pn ∧ py' = py ∧ pa' = pa ∧ o = 0) := by
    refine Lib.hid fun hk0 => ?_
    subst hk0
    rw [HL0.out] at hLk
    simp only [Option.some.injEq, Prod.mk.injEq, Ty.comp.injEq] at hLk
    obtain ⟨⟨-, -, -, e1, e2, e3, e4, -⟩, e5⟩ := hLk
    exact ⟨e1.symm, e2.symm, e3.symm, e4.symm, e5.symm⟩
   have HAN : Hid (1 ≤ k → ∀ j, j < n' → (pn' j).size ≠ 0) := by
    refine Lib.hid fun hk1 j hj h0 => ?_
    rw [HLL.out, show k = (k - 1) + 1 by omega, List.getElem?_cons_succ] at hLk
    obtain ⟨i, hi, hz, e⟩ := anonU_mem (List.mem_of_getElem? hLk)
    obtain ⟨_, _, _, _, _, _, _, _, ei, _, hnm'⟩ := HSH.out i hi hz
    rw [ei] at e
    simp only [Prod.mk.injEq, Ty.comp.injEq] at e
    obtain ⟨⟨-, -, -, e1, e2, -⟩, -⟩ := e
    subst e1 e2
    exact absurd h0 (hnm' j hj).1
   have hbX : Below wr.heap.size wr (wr.alloc (.cells #[objAt pt ob r, .int .u32 (o : Nat)] 274)) := (Below.refl _ _).alloc (Nat.le_refl _) _
   have OX := HO.out.ck (CellsKept.below (HB.out.trans (hbX.mono HB.out.size)))
   have VX := HV.out.of_eq (hbX.block mb HV.out.mp.lt)
   have hkey : TgtKey (wr.alloc (.cells #[objAt pt ob r, .int .u32 (o : Nat)] 274)) (.iface 274 (.agg #[objAt pt ob r, .int .u32 (o : Nat)])) := ⟨_, _, rfl, OX.key hrn⟩
   have hG := VX.tgt OX
   have KX := tgt_keys (wr.alloc (.cells #[objAt pt ob r, .int .u32 (o : Nat)] 274))
   have hz : (zeroValue 4).run Tryz.prog (wr.alloc (.cells #[objAt pt ob r, .int .u32 (o : Nat)] 274)) = .ok (.bool false) (wr.alloc (.cells #[objAt pt ob r, .int .u32 (o : Nat)] 274)) := by simp
   cases hat : mm (.iface 274 (.agg #[objAt pt ob r, .int .u32 (o : Nat)])) with
   | some uv =>
    obtain ⟨rfl, r', o', e1, hrn', hno⟩ := HV.out.keys _ _ hat
    have hrr : r = r' := by
     simp only [Value.iface.injEq, Value.agg.injEq, Array.mk.injEq, List.cons.injEq, Value.pointer.injEq, Option.some.injEq, Addr.mk.injEq, true_and, and_true] at e1
     exact HO.out.obInj hrn hrn' e1.1.2
    subst hrr
    have hhit := hno.hit (o := o) hrt
    have hk1 : 1 ≤ k := by
     rcases Nat.eq_zero_or_pos k with h | h
     ·exfalso
      obtain ⟨es, clock, _, _, h3, h4⟩ := HV.out.mp
      obtain ⟨e, he, _⟩ := h3 _ _ hat
      have h5 : 0 < es.toList.length := List.length_pos_of_mem he
      rw [Array.length_toList] at h5
      omega
     ·exact h
    have HM1 : Hid (m = LL.length) := Lib.hid (by rcases HK.out with h | h <;> omega)
    have HN1 : Hid (∀ k', k' < k + 1 → ∀ p, LL[k']? = some p → hit nm p = none) := Lib.hid fun k' hk' p' hp' => by
     by_cases h : k' < k
     ·exact HN.out k' h p' hp'
     ·obtain rfl : k' = k := by omega
      rw [HLK.out] at hp'
      rw [← Option.some.inj hp']
      exact hhit
    have hmap := VX.mp.is
    have HGD : Hid ((mm (.iface 274 (.agg #[objAt pt ob r, .int .u32 (o : Nat)]))).getD (.bool false) = .bool true) := Lib.hid (by rw [hat]; rfl)
    clear hhit e1 hno hrt hLk hpb' hmem hmc hrn hrn' hx0 hx1 hpt hat
    go_wp2_with (first
     | (refine wpList_mkIface rfl (.tmp 35) rfl (.agg #[objAt pt ob r, .int .u32 (o : Nat)]) rfl ot_concrete ?_)
     | (at_lookup; refine wpList_look1 rfl _ _ rfl Tryz.underlying276 hz KX rfl hmap hG (.iface 274 (.agg #[objAt pt ob r, .int .u32 (o : Nat)])) rfl hkey (.bool true) HGD.out ?_))
    go_roundg (LL.length - (k + 1))
    case measure => omega
    case rel => exact ⟨k + 1, m, _, xs, mm, Lib.hid (LS.out.below hbX), rfl, by go_num, by have := HM1.out; omega, hmL, Nat.le_refl _, Lib.hid (.inr ⟨Nat.succ_pos _, HM1.out⟩), HN1, Lib.hid (HZ.out.alloc _), Lib.hid ⟨by obtain ⟨es, clock, q1, q2, q3, q4⟩ := VX.mp; exact ⟨es, clock, q1, q2, q3, by omega⟩, VX.keys⟩, Lib.hid (HB.out.trans (hbX.mono HB.out.size)), HM⟩
   | none =>
    obtain ⟨q, hq, hlen⟩ := VX.mp.len Tryz.underlying276 3
    have hq32 : (q : Int) < 32 := by omega
    have hq33 : ¬ (32 : Int) ≤ q := by omega
    have hmap := VX.mp.is
    have hmpN := VX.mp
    have HAT := Lib.hid hat
    have HGD : Hid ((mm (.iface 274 (.agg #[objAt pt ob r, .int .u32 (o : Nat)]))).getD (.bool false) = .bool false) := Lib.hid (by rw [hat]; rfl)
    have HX1 := Lib.hid hx1
    clear hrt hLk hpb' hmem hmc hrn hx0 hx1 hat
    go_upto_region 13 with (first
     | (refine wpList_mkIface rfl (.tmp 35) rfl (.agg #[objAt pt ob r, .int .u32 (o : Nat)]) rfl ot_concrete ?_)
     | (refine wpList_mkIface rfl (.tmp 44) rfl (.agg #[objAt pt ob r, .int .u32 (o : Nat)]) rfl ot_concrete ?_)
     | (at_lookup; refine wpList_look1 rfl _ _ rfl Tryz.underlying276 hz KX rfl hmap hG (.iface 274 (.agg #[objAt pt ob r, .int .u32 (o : Nat)])) rfl hkey (.bool false) HGD.out ?_)
     | (at_mapUpdate; refine wpList_storeN rfl _ _ _ rfl Tryz.underlying276 KX rfl hmpN hG (.iface 274 (.agg #[objAt pt ob r, .int .u32 (o : Nat)])) (.bool true) rfl rfl hkey HAT.out ?_; intro w2 hg2 hs2 hm2))
    obtain ⟨xb, hxb⟩ : ∃ xb, xb = wr.heap.size := ⟨_, rfl⟩
    rw [← hxb]
    have hne : xb ≠ mb := by have := HV.out.mp.lt; omega
    have hne0 : wA.heap.size ≠ mb := by have := HMB.out; omega
    have HXB : Hid (Blk w2 xb #[objAt pt ob r, .int .u32 (o : Nat)] 274) := Lib.hid ((Blk.newAt wr _ _ hxb).grown hg2 (fun e => hne (Option.some.inj e)))
    have HB2 : Hid (Below wA.heap.size wA w2) := Lib.hid ((HB.out.trans (hbX.mono HB.out.size)).grown hg2 (by have := HB.out.size; simp; omega) (fun q hq' => by have := HMB.out; have e := Option.some.inj hq'; omega))
    have HZ2 : Hid (Blk w2 wA.heap.size mem0 189) := Lib.hid ((HZ.out.alloc _).grown hg2 (fun e => hne0 (Option.some.inj e)))
    have LS2 : Hid (TLst n f pt ob LL (wA.heap.size + 1) m (.slice (some ⟨g1, 0, none⟩) m c1) xs w2) := Lib.hid ((LS.out.below hbX).of fun gx hgx hgl => hg2.block gx hgl (fun e => HM.out (by rw [hgx]; exact e)))
    have HMN : Hid (MapN w2 mb (moreKey mm (.iface 274 (.agg #[objAt pt ob r, .int .u32 (o : Nat)])) (.bool true)) (k + 1)) := Lib.hid (hm2 _ (moreKey_at _ _ _) (moreKey_ne _ _ _))
    have HKEYS := Lib.hid HV.out.keys
    have HXN : Hid (xb ≠ mb ∧ xb < w2.heap.size ∧ wA.heap.size < xb ∧ mb < xb) := Lib.hid ⟨hne, HXB.out.lt, by have := HV.out.mp.lt; have := HMB.out; omega, by have := HV.out.mp.lt; omega⟩
    have HOX : Hid ((Value.slice (some ⟨g1, 0, none⟩) m c1).ownBlock ≠ some xb) := Lib.hid (fun e => by have h1 := (LS.out.own.lt _ e).2; omega)
    have hmm := HMC.out.m
    have hcc := HMC.out.c
    have HMCN := Lib.hid (HMC.out.n w2 (CellsKept.below HB2.out))
    have x0 := HXB.out.cell 0
    have xl := HXB.out.lt
    simp only [List.getElem?_toArray, List.getElem?_cons_zero] at x0
    clear f0 f1 hbX OX VX hkey hG KX hz hlen hq hq32 hq33 hmap hmpN hg2 hs2 hm2 hxb hne hne0 HV HZ HB LS HGD HX1 hg1
    go_wp2_with fail
    refine HMCN.out.mono ?_
    rintro e wM ⟨rfl, rfl⟩
    obtain ⟨w2, rfl⟩ : ∃ z : World, z = wM := ⟨_, rfl⟩
    clear HMCN hmm hcc x0 xl
    go_wp2_with fail
    go_loopg [7, 51] n' (fun gj s7 s51 wx => ∃ (j m' : Nat) (v' : Value) (xs' : List Value), Hid (TLst n f pt ob LL (wA.heap.size + 1) m' v' xs' wx) ∧ v' = s7 ∧ s51 = .int .i64 (j : Int) ∧ j ≤ n' ∧ n' - j ≤ gj ∧ m' ≤ LL.length ∧ Hid (k = 0 → m' = 1 + (anonU pn py pa j 0).length) ∧ Hid (1 ≤ k → m' = LL.length) ∧
     Hid (∀ i, i < j → pn' i ≠ nm) ∧ Hid (Blk wx xb #[objAt pt ob r, .int .u32 (o : Nat)] 274 ∧ v'.ownBlock ≠ some xb ∧ v'.ownBlock ≠ some mb) ∧ Hid (Blk wx wA.heap.size mem0 189) ∧ Hid (MapN wx mb (moreKey mm (.iface 274 (.agg #[objAt pt ob r, .int .u32 (o : Nat)])) (.bool true)) (k + 1)) ∧ Hid (Below wA.heap.size wA wx))
    case atStart =>
     refine ⟨0, m, _, xs, LS2, rfl, rfl, Nat.zero_le _, Nat.le_refl _, hmL, Lib.hid fun h => ?_, Lib.hid fun h => ?_, Lib.hid (fun i h => absurd h (Nat.not_lt_zero i)), Lib.hid ⟨HXB.out, HOX.out, HM.out⟩, HZ2, HMN, HB2⟩
     ·rcases HK.out with h1 | h1
      ·rw [anonU_zero]; exact h1.2
      ·omega
     ·rcases HK.out with h1 | h1
      ·omega
      ·exact h1.2
    case round =>
     clear LS2 HXB HOX HZ2 HMN HB2
     obtain ⟨j, m', v', xs', LS', rfl, rfl, hj, hgj, hm', HK0, HK1, HD, HX, HZ', HMN, HBX⟩ := hrel
     by_cases hlj : j < n'
     ·obtain ⟨hpj, hrj, gm, rfl, hmem⟩ := HMEM.out j hlj
      have hmw := hmem.ck (CellsKept.below HBX.out)
      obtain ⟨ml, q0, q1, q2, q3, q4⟩ := hmw
      have HPJ := Lib.hid hpj
      have HRJ := Lib.hid hrj
      have hb1 : (pa' j : Int) ≤ 200000 := by have := (HPB'.out j hlj).1; omega
      clear hmem hpj hrj
      by_cases hname : pn' j = nm
      ·rw [hname] at q0
       have u1 := HX.out.1.cell 1
       have xl := HX.out.1.lt
       simp only [List.getElem?_toArray, List.getElem?_cons_succ, List.getElem?_cons_zero] at u1
       obtain ⟨z0, z1, z2, z3, z4⟩ := HZ'.out.five
       have y0 := HZ'.out.free 0
       have y1 := HZ'.out.free 1
       have y2 := HZ'.out.free 2
       have y3 := HZ'.out.free 3
       have y4 := HZ'.out.free 4
       have zl := HZ'.out.lt
       have hlast : ((j : Int) == (n' : Int) - 1) = (j + 1 == n') := by
        by_cases h : j + 1 = n'
        ·subst h; simp
        ·have h2 : ¬ (j : Int) = (n' : Int) - 1 := by omega
         rw [beq_eq_false_iff_ne.2 h, beq_eq_false_iff_ne.2 h2]
       have HFS : Hid (LL.findSome? (hit nm) = some ⟨py' j, pa' j + o, pb' j, j + 1 == n'⟩) := Lib.hid (findSome_at _ LL k HN.out (by rw [HLK.out]; simp only [Option.bind_some, hit, direct_some hlj hname HD.out, Option.map_some]))
       have Hlast := Lib.hid hlast
       clear hname hlast
       go_upto_region 19 with fail
       obtain ⟨pk, hpk⟩ : ∃ pk, pk = wr.heap.size := ⟨_, rfl⟩
       obtain ⟨wc, hwc⟩ : ∃ wc, wc = wr.alloc (.cells #[.string nm, objAt pt ob (pc j), .int .u32 ((pa' j : Int) + o), .int .u32 (pb' j : Nat), .slice none 0 0] 189) := ⟨_, rfl⟩
       rw [← hpk, ← hwc]
       have hbc : Below wr.heap.size wr wc := by rw [hwc]; exact (Below.refl _ _).alloc (Nat.le_refl _) _
       have hpb : Blk wc pk #[.string nm, objAt pt ob (pc j), .int .u32 ((pa' j : Int) + o), .int .u32 (pb' j : Nat), .slice none 0 0] 189 := by rw [hwc, hpk]; exact Blk.new _ _ _
       have hne1 : pk ≠ wA.heap.size := by omega
       have HZC := Lib.hid (HZ'.out.old hbc)
       have HBC : Hid (Below wA.heap.size wA wc) := Lib.hid (HBX.out.trans (hbc.mono HBX.out.size))
       clear q0 q1 q2 q3 q4 u1 xl z0 z1 z2 z3 z4 y0 y1 y2 y3 y4 zl hwc hpk hbc ml
       obtain ⟨p0, p1, p2, p3, p4⟩ := hpb.five
       have pl := hpb.lt
       have y0 := HZC.out.free 0
       have y1 := HZC.out.free 1
       have y2 := HZC.out.free 2
       have y3 := HZC.out.free 3
       have y4 := HZC.out.free 4
       obtain ⟨z0, z1, z2, z3, z4⟩ := HZC.out.five
       have zl := HZC.out.lt
       have hwn : IntKind.i64.wrap ((n' : Int) - 1) = n' - 1 := IntWalk.i64_in _ (by omega)
       clear hpb LS' HX HZ' HMN HBX
       go_wp2_with fail
       refine bodyPost_ret (v := .tuple #[.agg #[.string nm, objAt pt ob (pc j), .int .u32 ((pa' j : Int) + o), .int .u32 (pb' j : Nat), .slice none 0 0], .bool ((j : Int) == (n' : Int) - 1), .nilIface]) ?_ rfl ⟨?_, ?_⟩
       ·rw [results_ctt rfl]
        go_simp
       ·rw [HFS.out, Hlast.out]
        exact ⟨pc j, HPJ.out, HRJ.out, by simp only [Int.natCast_add]⟩
       ·exact below5 HBC.out (Nat.le_refl _) _ _ _ _ _
      ·have x1 := name_ne hname
       have HNE := Lib.hid hname
       clear hname
       by_cases h0 : (pn' j).size = 0
       ·have x2 := name_nil h0
        have H0 := Lib.hid h0
        clear h0
        have hk0 : k = 0 := by
         rcases Nat.eq_zero_or_pos k with h | h
         ·exact h
         ·exact absurd H0.out (HAN.out h j hlj)
        subst hk0
        obtain ⟨rfl, rfl, rfl, rfl, rfl⟩ := HS0.out rfl
        have HM0 := Lib.hid (HK0.out rfl)
        clear HK0 HK1 HS0 HAN
        obtain ⟨un2, nm2, sz2, n2, pn2, py2, pa2, pb2, hpy, hn2, hin⟩ := HSH.out j hlj H0.out
        have hrj := HRJ.out
        rw [hpy] at hrj
        have HASC := Lib.hid (fun (W' : World) (hW : CellsKept wA W') => asComp_yes (HO.out.ck hW) HPJ.out HP.out hrj)
        have u1 := HX.out.1.cell 1
        have xl := HX.out.1.lt
        simp only [List.getElem?_toArray, List.getElem?_cons_succ, List.getElem?_cons_zero] at u1
        clear hrj
        go_wp2_with fail
        refine (HASC.out _ (CellsKept.below (HBX.out.alloc HBX.out.size _))).mono ?_
        rintro e wC ⟨rfl, hwC⟩
        have hbC : Below wr.heap.size wr wC := by rw [hwC]; exact (Below.refl _ _).alloc (Nat.le_refl _) _
        obtain ⟨pk, hpk⟩ : ∃ pk, pk = wr.heap.size := ⟨_, rfl⟩
        have hpb : Blk wC pk #[.string (pn' j), objAt pt ob (pc j), .int .u32 (pa' j : Nat), .int .u32 (pb' j : Nat), .slice none 0 0] 189 := by rw [hwC, hpk]; exact Blk.new _ _ _
        have LC := Lib.hid (LS'.out.below hbC)
        have HXC := Lib.hid (HX.out.1.old hbC)
        have HXO := Lib.hid HX.out.2
        have HZC := Lib.hid (HZ'.out.old hbC)
        have HMC4 := Lib.hid (HMN.out.of_eq (hbC.block mb HMN.out.lt))
        have HBC := Lib.hid (HBX.out.trans (hbC.mono HBX.out.size))
        rw [← hpk]
        clear q0 q1 q2 q3 q4 u1 xl ml hwC hpk hbC LS' HX HZ' HMN HBX HASC
        obtain ⟨p0, p1, p2, p3, p4⟩ := hpb.five
        have pl := hpb.lt
        have u1 := HXC.out.cell 1
        have xl := HXC.out.lt
        simp only [List.getElem?_toArray, List.getElem?_cons_succ, List.getElem?_cons_zero] at u1
        have hk63 : m' + 1 ≤ maxLen := by unfold maxLen; omega
        have hbase : wA.heap.size + 1 ≤ wC.heap.size := by have := HZC.out.lt; omega
        have pown := LC.out.own
        clear hpb
        go_wp2_with (at_builtin; refine wpList_app elemTgt (.tmp 85) (.tmp 93) rfl rfl (wA.heap.size + 1) _ m' xs' rfl (pown.alloc _) wC.heap.size 1 1 #[objAt pt ob (pc j), .int .u32 (pa' j : Nat)] rfl (Blk.newAt _ _ _ (by simp)) rfl rfl (by decide) ?_ (by omega) hk63 (by simp; omega); intro g cap' w4 ha)
        have hLP : LL[m']? = some (py' j, pa' j) := by rw [HLL.out, HM0.out, Nat.add_comm, List.getElem?_cons_succ, anonU_at hlj H0.out, Nat.zero_add]
        have hbA : Below wC.heap.size wC (wC.alloc (.cells #[objAt pt ob (pc j), .int .u32 (pa' j : Nat)] 274)) := (Below.refl _ _).alloc (Nat.le_refl _) _
        have LP := Lib.hid (TLst.push (LC.out.below hbA) ha (x := py' j) (o := pa' j) hLP (by rw [hpy]; exact ⟨un2, nm2, sz2, n2, pn2, py2, pa2, pb2, rfl, hn2, (HPB'.out j hlj).1, fun i hi => (hin i hi).2⟩) HPJ.out HRJ.out)
        have HX4 : Hid (Blk w4 xb #[objAt pt ob r, .int .u32 ((0 : Nat) : Int)] 274 ∧ (Value.slice (some ⟨g, 0, none⟩) (m' + 1) cap').ownBlock ≠ some xb ∧ (Value.slice (some ⟨g, 0, none⟩) (m' + 1) cap').ownBlock ≠ some mb) := by
         have hsz : (wC.alloc (.cells #[objAt pt ob (pc j), .int .u32 (pa' j : Nat)] 274)).heap.size = wC.heap.size + 1 := by simp
         have hmlt := HMC4.out.lt
         refine Lib.hid ⟨(HXC.out.alloc _).grown ha.2.1 (fun e => HXO.out.1 e.symm), fun e => ?_, fun e => ?_⟩
         ·have e2 : g = xb := by simpa [Value.ownBlock] using e
          rcases ha.2.2.1 with h | h
          ·exact HXO.out.1 (Eq.trans h (congrArg some e2))
          ·rw [hsz] at h; omega
         ·have e2 : g = mb := by simpa [Value.ownBlock] using e
          rcases ha.2.2.1 with h | h
          ·exact HXO.out.2 (Eq.trans h (congrArg some e2))
          ·rw [hsz] at h; omega
        have HZ4 := Lib.hid ((HZC.out.alloc (.cells #[objAt pt ob (pc j), .int .u32 (pa' j : Nat)] 274)).app ha (pown.alloc _) (Nat.lt_succ_self _))
        have HM4 := Lib.hid ((HMC4.out.of_eq (hbA.block mb HMC4.out.lt)).of_eq (ha.2.1.block mb (by have := HMC4.out.lt; simp; omega) (fun e => HXO.out.2 e.symm)))
        have HB4 := Lib.hid (ha.below (pown.alloc _) (HBC.out.trans (hbA.mono HBC.out.size)) (by have := HBC.out.size; simp; omega) (Nat.le_succ _))
        clear ha p0 p1 p2 p3 p4 u1 xl pl pown hbase hbA LC HXC HZC HMC4 HBC
        go_wp2_with fail
        go_roundg (n' - (j + 1))
        case measure => omega
        case rel => exact ⟨j + 1, m' + 1, _, _, LP, rfl, by go_num, hlj, Nat.le_refl _, (List.getElem?_eq_some_iff.1 hLP).1, Lib.hid (fun _ => by rw [anonU_anon H0.out, HM0.out, List.length_append]; rfl), Lib.hid (fun h => by omega), Lib.hid (fun i hi => (Nat.lt_succ_iff_lt_or_eq.1 hi).elim (HD.out i) (fun e => by rw [e]; exact HNE.out)), HX4, HZ4, HM4, HB4⟩
       ·have x2 := name_full2 h0
        have H0 := Lib.hid h0
        clear h0
        go_wp2_with fail
        go_roundg (n' - (j + 1))
        case measure => omega
        case rel => exact ⟨j + 1, m', _, xs', Lib.hid (LS'.out.below ((Below.refl _ _).alloc (Nat.le_refl _) _)), rfl, by go_num, hlj, Nat.le_refl _, hm', Lib.hid (fun h => by
         rw [HK0.out h, anonU_named (by rw [← (HS0.out h).2.1]; exact H0.out)]), HK1, Lib.hid (fun i hi => (Nat.lt_succ_iff_lt_or_eq.1 hi).elim (HD.out i) (fun e => by rw [e]; exact HNE.out)), Lib.hid ⟨HX.out.1.alloc _, HX.out.2⟩, Lib.hid (HZ'.out.alloc _), Lib.hid (HMN.out.of_eq (Below.heap_alloc _ _ _ HMN.out.lt)), Lib.hid (HBX.out.alloc HBX.out.size _)⟩
     ·obtain rfl : j = n' := by omega
      have hno : NoR f nm r := noR_of HRT.out HD.out
      have hhit : hit nm (.comp un' tn' sz' j pn' py' pa' pb', o) = none := by simp only [hit, direct_none HD.out, Option.map_none]
      have HN1 : Hid (∀ k', k' < k + 1 → ∀ p, LL[k']? = some p → hit nm p = none) := Lib.hid fun k' hk' p' hp' => by
       by_cases h : k' < k
       ·exact HN.out k' h p' hp'
       ·obtain rfl : k' = k := by omega
        rw [HLK.out] at hp'
        rw [← Option.some.inj hp']
        exact hhit
      have HM1 : Hid (m' = LL.length) := Lib.hid (by
       rcases Nat.eq_zero_or_pos k with h | h
       ·rw [HK0.out h, (HS0.out h).1, HLL.out, List.length_cons, Nat.add_comm]
       ·exact HK1.out h)
      have HVN : Hid (VMap n f pt ob nm mb (k + 1) (moreKey mm (.iface 274 (.agg #[objAt pt ob r, .int .u32 (o : Nat)])) (.bool true)) wr) := Lib.hid ⟨HMN.out, fun x uu hx => by
       by_cases e : x = (.iface 274 (.agg #[objAt pt ob r, .int .u32 (o : Nat)]))
       ·rw [e, moreKey_at] at hx
        exact ⟨(Option.some.inj hx).symm, r, o, e, HRN.out, hno⟩
       ·rw [moreKey_ne _ _ _ _ e] at hx
        exact HKEYS.out x uu hx⟩
      clear hhit hno
      go_wp2_with fail
      go_roundg (LL.length - (k + 1))
      case measure => omega
      case rel => exact ⟨k + 1, m', _, xs', _, LS', rfl, by go_num, by rw [HM1.out]; omega, hm', Nat.le_refl _, Lib.hid (.inr ⟨Nat.succ_pos _, HM1.out⟩), HN1, HZ', HVN, HBX, Lib.hid HX.out.2.2⟩
  ·obtain rfl : k = m := by omega
   obtain ⟨va, vcap, rfl⟩ := own_slice LS.out.own
   obtain ⟨z0, z1, z2, z3, z4⟩ := HZ.out.five
   have y0 := HZ.out.free 0
   have y1 := HZ.out.free 1
   have y2 := HZ.out.free 2
   have y3 := HZ.out.free 3
   have y4 := HZ.out.free 4
   have zl := HZ.out.lt
   have hevw := (HB.out.cell (p := ⟨4, 0, none⟩) le).trans HEV.out
   have lew := Nat.lt_of_lt_of_le le HB.out.size
   have hne4 : ¬ 4 = wA.heap.size := by omega
   have HFS : Hid (LL.findSome? (hit nm) = none) := Lib.hid (findSome_no _ LL fun k' hk' p' hp' => HN.out k' (by rcases HK.out with h | h <;> omega) p' hp')
   have far4 : ∀ (w : World) (i : Nat) (v : Value), (w.setCell ⟨wA.heap.size, i, none⟩ v).cell? ⟨4, 0, none⟩ = w.cell? ⟨4, 0, none⟩ := fun _ _ _ => World.cell?_setCell_far _ _ _ _ (Ne.symm hne4)
   go_wp2_with fail
   go_region_held3 (fun w' => w'.cell? ⟨4, 0, none⟩ = some ev) (simp only [World.cell?_drew, far4, hevw]) (first | fail)
   go_wp2_with fail
   refine bodyPost_ret (v := .tuple #[.agg mem0, .bool false, ev]) ?_ rfl ⟨?_, ?_⟩
   ·rw [results_ctt rfl]
    go_simp
   ·rw [HFS.out]; rfl
   ·exact (below5 HB.out (Nat.le_refl _) _ _ _ _ _).drew
end Go.Proofs.YtfilbgmbmlmdbaaGreatDoor
