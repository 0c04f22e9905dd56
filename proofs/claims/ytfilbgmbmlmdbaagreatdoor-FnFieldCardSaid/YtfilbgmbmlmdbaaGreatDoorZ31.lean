/- The package's search for a field by an accessor: leaves of a round. Nothing is claimed here. -/
import Derived.Test.YtfilbgmbmlmdbaaGreatDoorZ21
set_option linter.unusedSimpArgs false
set_option linter.unusedVariables false
set_option maxRecDepth 1000000
set_option maxHeartbeats 16000000
namespace Go.Proofs.YtfilbgmbmlmdbaaGreatDoor
open Go.RowKit Go.MapKept
section
variable {c0 c2 c3 c4 c5 c11 c12 c13 c38 c39 c40 c41 c42 c43 c44 c45 c46 c47 c48 c49 c50 c51 c52 c53 c54 c55 c56 c57 c58 c59 c60 c61 c62 c63 c64 c65 c66 c67 c68 c69 c70 c325 c326 u8 u16 u17 u18 u19 u20 u21 u22 u23 u24 u25 u26 u27 u28 u29 u30 u31 u32 u33 u34 u35 u36 u37 u74 u75 u76 u77 u78 u79 u80 u81 u82 u83 u84 u85 u86 u87 u88 u89 u90 u91 u92 u93 u94 u95 u96 u97 u98 u99 u100 u101 u102 u103 u104 u105 u106 u107 u108 u109 u110 u111 u112 u113 u114 u115 u116 u117 u118 u119 u120 u121 u122 u123 u124 u125 u126 u127 u128 u129 u130 u131 u132 u133 u134 u135 u136 u137 u138 u139 u140 u141 u142 u143 u144 u145 u146 u147 u148 u149 u150 u151 u152 u153 u154 u155 u156 u157 u158 u159 u160 u161 u162 u163 u164 u165 u166 u167 u168 u169 u170 u171 u172 u173 u174 u175 u176 u177 u178 u179 u180 u181 u182 u183 u184 u185 u186 u187 u188 u189 u190 u191 u192 u193 u194 u195 u196 u197 u198 u199 u200 u201 u202 u203 u204 u205 u206 u207 u208 u209 u210 u211 u212 u213 u214 u215 u216 u217 u218 u219 u220 u221 u222 u223 u224 u225 u226 u227 u228 u229 u230 u231 u232 u233 u234 u235 u236 u237 u238 u239 u240 u241 u242 u243 u244 u245 u246 u247 u248 u249 u250 u251 u252 u253 u254 u255 u256 u257 u258 u259 u260 u261 u262 u263 u264 u265 u266 u267 u268 u269 u270 u271 u272 u273 u274 u275 u276 u277 u278 u279 u280 u281 u282 u283 u284 u285 u286 u287 u288 u289 u290 u291 u292 u293 u294 u295 u296 u297 u298 u299 u300 u301 u302 u303 u304 u305 u306 u307 u308 u309 u310 u311 u312 u313 u314 u315 u316 u317 u318 u319 u320 u321 u322 u323 u324 : Value}
theorem pkf_46 {T : Two} {W wr : World} {a5 : Addr} {v5 : Value} {g L cap z6 z7 ra rb plen ia ib k i gk : Nat} {rest : List Nat} {oa ob : Bool} {R : FS × Out} {J : Nat → Act → World → Prop} {K K6 : Act → World → Prop}
  {un un2 : Bool} {nm nm2 : ByteArray} {sz n sz2 n2 : Nat} {pn pn2 : Nat → ByteArray} {py py2 : Nat → Ty} {xa xb xa2 xb2 : Nat → Nat} {ao ab af bo bbi bf : Nat} {h : Hit} (hin : ¬ n ≤ i) (h0 : ¬ (pn i).size = 0) (hfp : findP (pn i) (.comp un2 nm2 sz2 n2 pn2 py2 xa2 xb2) = some h) (hbb : ¬ (xb i = 0 ∧ h.bits = 0)) (hre : ¬ rest.isEmpty = true)
  (X : KCtx T W a5 v5 g L cap z6 z7 ra rb plen) (hqk : (i :: rest).length + k = plen) (hqg : (i :: rest).length ≤ gk) (HACC : Hid (Acc W g L (i :: rest) (k + 1))) (ST : Hid (KSt T W z6 z7 ra rb ia ib (60000000 + k * 100000) ⟨.comp un nm sz n pn py xa xb, ao, ab, af, (.comp un2 nm2 sz2 n2 pn2 py2 xa2 xb2), bo, bbi, bf⟩ wr)) (HRR : Hid (R = fieldGo (i :: rest) ⟨.comp un nm sz n pn py xa xb, ao, ab, af, (.comp un2 nm2 sz2 n2 pn2 py2 xa2 xb2), bo, bbi, bf⟩))
  (hJ : ∀ k' a' w', KInv T W g L cap z6 z7 ra rb plen R c0 c2 c3 c4 c5 c11 c12 c13 c38 c39 c40 c41 c42 c43 c44 c45 c46 c47 c48 c49 c50 c51 c52 c53 c54 c55 c56 c57 c58 c59 c60 c61 c62 c63 c64 c65 c66 c67 c68 c69 c70 c325 c326 k' a' w' → J k' a' w') (hK : ∀ a' w', Handed J gk a' w' → K a' w') :
  Code.wp Tryz.prog pkfBody (Exit.then K (Exit.inBlock 0 (Exit.then K6 (bodyPost Tryz.prog Tryz.f62 (KRes T W a5 R))))) ⟨#[c0, .slice (some ⟨g, 0, none⟩) L cap, c2, c3, c4, c5, .pointer (some ⟨z6, 0, none⟩), .pointer (some ⟨z7, 0, none⟩), u8, .pointer (some ⟨ra, 0, none⟩), .pointer (some ⟨rb, 0, none⟩), c11, c12, c13, .bool oa, .bool ob, u16, u17, u18, u19, u20, u21, u22, u23, u24, u25, u26, u27, u28, u29, u30, u31, u32, u33, u34, u35, u36, u37, c38, c39, c40, c41, c42, c43, c44, c45, c46, c47, c48, c49, c50, c51, c52, c53, c54, c55, c56, c57, c58, c59, c60, c61, c62, c63, c64, c65, c66, c67, c68, c69, c70, .slice (some ⟨g, 1, none⟩) (L - 1) (cap - 1), .int .i64 ((L - 1 : Nat) : Int), .int .i64 (k : Int), u74, u75, u76, u77, u78, u79, u80, u81, u82, u83, u84, u85, u86, u87, u88, u89, u90, u91, u92, u93, u94, u95, u96, u97, u98, u99, u100, u101, u102, u103, u104, u105, u106, u107, u108, u109, u110, u111, u112, u113, u114, u115, u116, u117, u118, u119, u120, u121, u122, u123, u124, u125, u126, u127, u128, u129, u130, u131, u132, u133, u134, u135, u136, u137, u138, u139, u140, u141, u142, u143, u144, u145, u146, u147, u148, u149, u150, u151, u152, u153, u154, u155, u156, u157, u158, u159, u160, u161, u162, u163, u164, u165, u166, u167, u168, u169, u170, u171, u172, u173, u174, u175, u176, u177, u178, u179, u180, u181, u182, u183, u184, u185, u186, u187, u188, u189, u190, u191, u192, u193, u194, u195, u196, u197, u198, u199, u200, u201, u202, u203, u204, u205, u206, u207, u208, u209, u210, u211, u212, u213, u214, u215, u216, u217, u218, u219, u220, u221, u222, u223, u224, u225, u226, u227, u228, u229, u230, u231, u232, u233, u234, u235, u236, u237, u238, u239, u240, u241, u242, u243, u244, u245, u246, u247, u248, u249, u250, u251, u252, u253, u254, u255, u256, u257, u258, u259, u260, u261, u262, u263, u264, u265, u266, u267, u268, u269, u270, u271, u272, u273, u274, u275, u276, u277, u278, u279, u280, u281, u282, u283, u284, u285, u286, u287, u288, u289, u290, u291, u292, u293, u294, u295, u296, u297, u298, u299, u300, u301, u302, u303, u304, u305, u306, u307, u308, u309, u310, u311, u312, u313, u314, u315, u316, u317, u318, u319, u320, u321, u322, u323, u324, c325, c326], []⟩ wr := by
 obtain ⟨hL, hg, hcap, hlen, hL2, DD, PK, S5, O5, LA⟩ := X
 have HD := Lib.hid DD
 have HPK := Lib.hid PK
 have HO5 := Lib.hid O5
 have HS5 := Lib.hid S5
 have HLA := Lib.hid LA
 clear PK O5 S5 LA
 obtain ⟨F6a, F6b, F7a, F7b⟩ := DD.far
 have hab := DD.dab
 have hab' := DD.dab.symm
 clear DD
 have hLp : (1 : Int) ≤ L := by omega
 have hcapp : (L : Int) ≤ cap := by omega
 have hc2 : (2 : Int) ≤ cap := by omega
 simp only [List.length_cons] at hqk hqg
 have hkL : (k : Int) < L - 1 := by omega
 have hkL' : ¬ ((L : Int) - 1 ≤ k) := by omega
 obtain ⟨hi0, hi1⟩ := HACC.out.2 0 i rfl
 have HACC1 := Lib.hid HACC.out.tail
 have hi2 := (ST.out.old.cell (p := ⟨g, k + 1 + 0, none⟩) hg).trans hi0
 rw [Nat.add_zero, Nat.add_comm] at hi2
 have gl := Nat.lt_of_lt_of_le hg ST.out.old.size
 clear hi0 HACC
 have H_hin := Lib.hid hin
 clear hin
 have H_h0 := Lib.hid h0
 clear h0
 have H_hfp := Lib.hid hfp
 clear hfp
 have H_hbb := Lib.hid hbb
 clear hbb
 have H_hre := Lib.hid hre
 clear hre
 have TA : Hid (RT T.f1 ia (.comp un nm sz n pn py xa xb)) := Lib.hid ST.out.ta
 have TB : Hid (RT T.f2 ib (.comp un2 nm2 sz2 n2 pn2 py2 xa2 xb2)) := Lib.hid ST.out.tb
 have PKw := HPK.out.ck (CellsKept.below ST.out.old)
 have hun := underlying_any wr T.n1 T.og1 ia T.f1 T.pt1 T.ob1 PKw.i.h1 ST.out.la PKw.i.p1
 rw [show und T.f1 ia = ia from if_neg (by have h : (T.f1 ia).k = (if un then 5 else 4) := (by rw [TA.out.kind]; cases un <;> rfl); rw [h]; cases un <;> decide)] at hun
 obtain ⟨hpt, u, ucap, pc, F, hmc, hmem⟩ := PKw.i.h1.compC PKw.r1 ST.out.la TA.out
 obtain ⟨z, -, hz, hca⟩ := PKw.i.h1.compA ST.out.la TA.out rfl
 rw [isC_comp] at hz hca
 obtain rfl := hz rfl
 obtain ⟨hsz, hn20, hpp, hyy, haa⟩ := ST.out.oka.parts
 have hmm := hmc.m
 have hcc := hmc.c
 have HMCN := Lib.hid (hmc.n wr (CellsKept.refl wr))
 have HMEM := Lib.hid hmem
 have HPP := Lib.hid hpp
 have HYY := Lib.hid hyy
 have HAA := Lib.hid haa
 have HUN := Lib.hid hun
 clear hpp hyy haa hsz hmc hmem PKw hpt hun
 obtain ⟨ea0, ea1, ea2, ea3⟩ := ST.out.ba.four
 obtain ⟨eb0, eb1, eb2, eb3⟩ := ST.out.bb.four
 have xal := ST.out.ba.lt
 have xbl := ST.out.bb.lt
 conv => arg 2; whnf
 go_wp2_with fail
 refine HUN.out.mono ?_
 rintro e w5 ⟨rfl, rfl⟩
 obtain ⟨wr, rfl⟩ : ∃ z : World, z = w5 := ⟨_, rfl⟩
 clear HUN
 go_wp2_with fail
 refine HMCN.out.mono ?_
 rintro e w5 ⟨rfl, rfl⟩
 obtain ⟨wr, rfl⟩ : ∃ z : World, z = w5 := ⟨_, rfl⟩
 clear HMCN hmm hcc hca
 have hin := H_hin.out
 have hinI : ¬ (n : Int) ≤ i := by omega
 have hil : i < n := by omega
 obtain ⟨hpj, hrj, ug, hug, hma⟩ := HMEM.out i hil
 subst hug
 obtain ⟨lg, q0, q1, q2, q3, q4⟩ := hma
 have q1 : wr.cell? ⟨ug, i * 5 + 1, none⟩ = some (objAt T.pt1 T.ob1 (pc i)) := q1
 have hxa : xa i ≤ 400000 := Nat.le_trans (HPP.out i hil).1 (by decide)
 have HTJ := Lib.hid hrj
 have HPJ := Lib.hid hpj
 have HOJ := Lib.hid (HYY.out i hil)
 clear hrj hpj HMEM
 have h0 := H_h0.out
 have x1 := name_full2 h0
 have Hnz := Lib.hid h0
 have Hin := Lib.hid hin
 clear h0 hin
 go_upto_region 25 with fail
 obtain ⟨pk, hpk⟩ : ∃ z, z = wr.heap.size := ⟨_, rfl⟩
 obtain ⟨wP, hwP⟩ : ∃ z : World, z = wr.alloc (.cells #[.string (pn i), objAt T.pt1 T.ob1 (pc i), .int .u32 (xa i : Nat), .int .u32 (xb i : Nat), .slice none 0 0] 189) := ⟨_, rfl⟩
 rw [← hpk, ← hwP]
 have hbP : Below wr.heap.size wr wP := by rw [hwP]; exact (Below.refl _ _).alloc (Nat.le_refl _) _
 have hpb : Blk wP pk #[.string (pn i), objAt T.pt1 T.ob1 (pc i), .int .u32 (xa i : Nat), .int .u32 (xb i : Nat), .slice none 0 0] 189 := by rw [hwP, hpk]; exact Blk.new _ _ _
 have STP := Lib.hid (ST.out.below hbP (Nat.le_refl _))
 have HPB := Lib.hid hpb
 have HLL : Hid (ra < pk ∧ rb < pk) := Lib.hid ⟨by have := ST.out.ba.lt; omega, by have := ST.out.bb.lt; omega⟩
 clear ea0 ea1 ea2 ea3 eb0 eb1 eb2 eb3 xbl q0 q1 q2 q3 q4 xal hwP hpk hbP hpb
 obtain ⟨p0, p1, p2, p3, p4⟩ := HPB.out.five
 have pl := HPB.out.lt
 obtain ⟨ea0, ea1, ea2, ea3⟩ := STP.out.ba.four
 obtain ⟨eb0, eb1, eb2, eb3⟩ := STP.out.bb.four
 have xal := STP.out.ba.lt
 have xbl := STP.out.bb.lt
 have gl := Nat.lt_of_lt_of_le hg STP.out.old.size
 have PKP := HPK.out.ck (CellsKept.below STP.out.old)
 have HAC := Lib.hid (asComp_yes PKP.i.h2 STP.out.lb PKP.i.p2 TB.out)
 have HFM := Lib.hid (findMember_any PKP.i.h2 PKP.i.p2 PKP.r2 STP.out.lb TB.out STP.out.okb.shp Hnz.out PKP.imp)
 clear PKP
 go_wp2_with fail
 refine HAC.out.mono ?_
 rintro e w5 ⟨rfl, rfl⟩
 obtain ⟨wP, rfl⟩ : ∃ z : World, z = w5 := ⟨_, rfl⟩
 clear HAC
 go_wp2_with fail
 refine HFM.out.mono ?_
 rintro e w6 ⟨hnd, hb6⟩
 clear HFM p0 p1 p2 p3 p4 pl x1 ea0 ea1 ea2 ea3 eb0 eb1 eb2 eb3 xal xbl
 have ST6 := Lib.hid (STP.out.below hb6 (Nat.le_refl _))
 have HPB6 := Lib.hid (HPB.out.old hb6)
 clear STP HPB hb6
 have hfp := H_hfp.out
 rw [hfp] at hnd
 obtain ⟨jq, hjq, hrq, rfl⟩ := hnd
 obtain ⟨hoh, hph, hah⟩ := findP_ok ST6.out.okb hfp
 have HRQ := Lib.hid hrq
 have HJQ := Lib.hid hjq
 have HOH := Lib.hid hoh
 have HFP := Lib.hid hfp
 clear hrq hfp hjq hoh hph
 obtain ⟨p0, p1, p2, p3, p4⟩ := HPB6.out.five
 have pl := HPB6.out.lt
 obtain ⟨ea0, ea1, ea2, ea3⟩ := ST6.out.ba.four
 obtain ⟨eb0, eb1, eb2, eb3⟩ := ST6.out.bb.four
 have xal := ST6.out.ba.lt
 have xbl := ST6.out.bb.lt
 go_upto_region 37 with fail
 obtain ⟨qk, hpk⟩ : ∃ z, z = w6.heap.size := ⟨_, rfl⟩
 obtain ⟨wQ, hwP⟩ : ∃ z : World, z = w6.alloc (.cells #[.string (pn i), objAt T.pt2 T.ob2 jq, .int .u32 (h.at_ : Nat), .int .u32 (h.bits : Nat), .slice none 0 0] 189) := ⟨_, rfl⟩
 rw [← hpk, ← hwP]
 have hbP : Below w6.heap.size w6 wQ := by rw [hwP]; exact (Below.refl _ _).alloc (Nat.le_refl _) _
 have hpb : Blk wQ qk #[.string (pn i), objAt T.pt2 T.ob2 jq, .int .u32 (h.at_ : Nat), .int .u32 (h.bits : Nat), .slice none 0 0] 189 := by rw [hwP, hpk]; exact Blk.new _ _ _
 have STQ := Lib.hid (ST6.out.below hbP (Nat.le_refl _))
 have HPQ := Lib.hid (HPB6.out.old hbP)
 have HQB := Lib.hid hpb
 have HKL : Hid (ra < qk ∧ rb < qk ∧ pk ≠ qk) := Lib.hid ⟨by have := ST6.out.ba.lt; omega, by have := ST6.out.bb.lt; omega, by have := HPB6.out.lt; omega⟩
 have hrr : ao ≤ 60000000 + k * 100000 ∧ bo ≤ 60000000 + k * 100000 := ST6.out.bnd
 clear p0 p1 p2 p3 p4 pl ea0 ea1 ea2 ea3 eb0 eb1 eb2 eb3 xal xbl hwP hpk hbP hpb HPB6 ST6
 obtain ⟨p0, p1, p2, p3, p4⟩ := HPQ.out.five
 obtain ⟨r0, r1, r2, r3, r4⟩ := HQB.out.five
 have pl := HPQ.out.lt
 have rl := HQB.out.lt
 have HXA := Lib.hid hxa
 have HAH := Lib.hid hah
 obtain ⟨ea0, ea1, ea2, ea3⟩ := STQ.out.ba.four
 obtain ⟨eb0, eb1, eb2, eb3⟩ := STQ.out.bb.four
 have xal := STQ.out.ba.lt
 have xbl := STQ.out.bb.lt
 have fa0 := STQ.out.ba.free 0
 have fb0 := STQ.out.bb.free 0
 have fa1 := STQ.out.ba.free 1
 have fb1 := STQ.out.bb.free 1
 have fa2 := STQ.out.ba.free 2
 have fb2 := STQ.out.bb.free 2
 have fa3 := STQ.out.ba.free 3
 have fb3 := STQ.out.bb.free 3
 have hpra : pk ≠ ra := by have := HLL.out.1; omega
 have hprb : pk ≠ rb := by have := HLL.out.2; omega
 have hqra : qk ≠ ra := by have := HKL.out.1; omega
 have hqrb : qk ≠ rb := by have := HKL.out.2.1; omega
 go_upto_region 41 with fail
 refine wp_world (fun w' => Hid (KSt T W z6 z7 ra rb (pc i) jq (60000000 + k * 100000) ⟨py i, ao, xb i, 0, h.y, bo, h.bits, 0⟩ w' ∧ Blk w' pk #[.string (pn i), objAt T.pt1 T.ob1 (pc i), .int .u32 (xa i : Nat), .int .u32 (xb i : Nat), .slice none 0 0] 189 ∧ Blk w' qk #[.string (pn i), objAt T.pt2 T.ob2 jq, .int .u32 (h.at_ : Nat), .int .u32 (h.bits : Nat), .slice none 0 0] 189)) (Lib.hid ⟨(STQ.out.putA (s' := ⟨py i, ao, xb i, 0, (.comp un2 nm2 sz2 n2 pn2 py2 xa2 xb2), bo, bbi, bf⟩) HD.out rfl rfl rfl rfl rfl rfl rfl HTJ.out HPJ.out HOJ.out hrr).putB HD.out rfl rfl rfl rfl rfl rfl rfl HRQ.out HJQ.out HOH.out hrr, (HPQ.out.far4 hpra).far4 hprb, (HQB.out.far4 hqra).far4 hqrb⟩) (fun wZ hZ => ?_)
 have STZ := Lib.hid hZ.out.1
 have HPZ := Lib.hid hZ.out.2.1
 have HQZ := Lib.hid hZ.out.2.2
 clear p0 p1 p2 p3 p4 r0 r1 r2 r3 r4 pl rl ea0 ea1 ea2 ea3 eb0 eb1 eb2 eb3 xal xbl fa0 fa1 fa2 fa3 fb0 fb1 fb2 fb3 hZ STQ HPQ HQB
 have hbb := H_hbb.out
 obtain ⟨ea0, ea1, ea2, ea3⟩ := STZ.out.ba.four
 obtain ⟨eb0, eb1, eb2, eb3⟩ := STZ.out.bb.four
 have xal := STZ.out.ba.lt
 have xbl := STZ.out.bb.lt
 go_cut [173] (fun s173 wx => s173 = .bool false ∧ wx = wZ)
 case first =>
  by_cases hx0 : xb i = 0
  ·have hh : ¬ ((h.bits : Nat) : Int) = 0 := by omega
   rw [hx0] at ea3
   clear hbb hx0
   go_wp2_with fail
   go_meet
   exact ⟨congrArg Value.bool (beq_eq_false_iff_ne.2 hh), rfl⟩
  ·have hx : ¬ ((xb i : Nat) : Int) = 0 := by omega
   clear hbb hx0
   go_wp2_with fail
   go_meet
   exact ⟨rfl, rfl⟩
 case rest =>
  obtain ⟨rfl, hwc⟩ := hcut
  subst hwc
  obtain ⟨wZ, rfl⟩ : ∃ z : World, z = wc := ⟨_, rfl⟩
  have HBB := Lib.hid hbb
  clear hbb ea0 ea1 ea2 ea3 eb0 eb1 eb2 eb3 xal xbl
  obtain ⟨p0, p1, p2, p3, p4⟩ := HPZ.out.five
  obtain ⟨r0, r1, r2, r3, r4⟩ := HQZ.out.five
  have pl := HPZ.out.lt
  have rl := HQZ.out.lt
  obtain ⟨ea0, ea1, ea2, ea3⟩ := STZ.out.ba.four
  obtain ⟨eb0, eb1, eb2, eb3⟩ := STZ.out.bb.four
  have xal := STZ.out.ba.lt
  have xbl := STZ.out.bb.lt
  have hre := H_hre.out
  have hr0 : rest.length ≠ 0 := fun h0 => hre (by rw [List.length_eq_zero_iff.1 h0]; rfl)
  have hre' : rest.isEmpty = false := by simpa using hre
  have hlt1 : (k : Int) + 1 < (L : Int) - 1 := by omega
  have HRES : Hid (R = (⟨.comp un nm sz n pn py xa xb, ao, ab, af, (.comp un2 nm2 sz2 n2 pn2 py2 xa2 xb2), bo, bbi, bf⟩, .wrong)) := Lib.hid (HRR.out.trans (fieldGo_stop (by
   unfold stepF; simp only [if_neg Hin.out, if_neg Hnz.out, HFP.out, if_neg HBB.out, hre', ↓reduceIte])))
  clear hre hre' hr0 hxa hah
  have k60 := STZ.out.b6.free 0
  have k61 := STZ.out.b6.free 1
  have k62 := STZ.out.b6.free 2
  have k63 := STZ.out.b6.free 3
  have k70 := STZ.out.b7.free 0
  have k71 := STZ.out.b7.free 1
  have k72 := STZ.out.b7.free 2
  have k73 := STZ.out.b7.free 3
  have k6l := STZ.out.b6.lt
  have k7l := STZ.out.b7.lt
  obtain ⟨z60, z61, z62, z63⟩ := STZ.out.b6.four
  obtain ⟨z70, z71, z72, z73⟩ := STZ.out.b7.four
  have d67 := HD.out.d67
  have d76 := HD.out.d67.symm
  go_upto_region 46 with fail
  apply wp_meet0 (fun w' => Hid (KEnd W z6 z7 (cfC .nilIface 0 0 0) (cfC .nilIface 0 0 0) w' ∧ OtherErr a5 w' (.iface 228 (.pointer (some ⟨wZ.heap.size, 0, none⟩)))))
  case h1 =>
   go_wp2_with fail
   refine (errNew_any _ _).mono ?_
   rintro e w8 ⟨rfl, hw8⟩
   have STE := STZ.out.below (show Below wZ.heap.size wZ w8 by rw [hw8]; exact (Below.refl _ _).alloc (Nat.le_refl _) _) (Nat.le_refl _)
   have hlo : NewErr wZ.heap.size w8 (.iface 228 (.pointer (some ⟨wZ.heap.size, 0, none⟩))) := by rw [hw8]; exact NewErr.of _ _
   have HPE := Lib.hid (And.intro (STE.zeros HD.out) ((hlo.zeros k6l k7l).other (a := a5) (Nat.lt_of_lt_of_le HLA.out STZ.out.old.size)))
   have HST := Lib.hid STE
   clear STE hlo hw8
   have k60 := HST.out.b6.free 0
   have k61 := HST.out.b6.free 1
   have k62 := HST.out.b6.free 2
   have k63 := HST.out.b6.free 3
   have k70 := HST.out.b7.free 0
   have k71 := HST.out.b7.free 1
   have k72 := HST.out.b7.free 2
   have k73 := HST.out.b7.free 3
   have k6l := HST.out.b6.lt
   have k7l := HST.out.b7.lt
   obtain ⟨z60, z61, z62, z63⟩ := HST.out.b6.four
   obtain ⟨z70, z71, z72, z73⟩ := HST.out.b7.four
   have d67 := HD.out.d67
   have d76 := HD.out.d67.symm
   go_wp2_with fail
   exact ⟨HPE, rfl⟩
  case h2 =>
   intro w4 PE
   clear k60 k61 k62 k63 k70 k71 k72 k73 k6l k7l z60 z61 z62 z63 z70 z71 z72 z73 d67 d76
   obtain ⟨y0, y1, y2, y3⟩ := PE.out.1.b6.four
   obtain ⟨x0, x1, x2, x3⟩ := PE.out.1.b7.four
   have yl := PE.out.1.b6.lt
   have xl := PE.out.1.b7.lt
   go_wp2_with fail
   refine bodyPost_ret (v := .tuple #[.agg (cfC .nilIface 0 0 0), .agg (cfC .nilIface 0 0 0), (.iface 228 (.pointer (some ⟨wZ.heap.size, 0, none⟩)))]) ?_ rfl ⟨PE.out.1.old, by rw [HRES.out] <;> exact ⟨_, rfl, PE.out.2⟩⟩
   rw [results_cct rfl]
   go_simp
end
end Go.Proofs.YtfilbgmbmlmdbaaGreatDoor
