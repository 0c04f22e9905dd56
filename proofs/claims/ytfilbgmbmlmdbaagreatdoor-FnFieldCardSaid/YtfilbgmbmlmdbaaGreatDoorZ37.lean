/- The package's search for a field by an accessor: leaves of a round. Nothing is claimed here. -/
import Derived.Test.YtfilbgmbmlmdbaaGreatDoorZ21
set_option linter.unusedSimpArgs false
set_option linter.unusedVariables false
set_option maxRecDepth 1000000
set_option maxHeartbeats 16000000
namespace Go.Proofs.YtfilbgmbmlmdbaaGreatDoor
open Go.RowKit Go.MapKept
section
variable {c0 c2 c3 c4 c5 c11 c12 c13 c38 c39 c40 c41 c42 c43 c44 c45 c46 c47 c48 c49 c50 c51 c52 c53 c54 c55 c56 c57 c58 c59 c60 c61 c62 c63 c64 c65 c66 c67 c68 c69 c70 c325 c326 u8 u16 u17 u18 u19 u20 u21 u22 u23 u24 u25 u26 u27 u28 u29 u30 u31 u32 u33 u34 u35 u36 u37 u74 u75 u76 u77 u78 u79 u80 u81 u82 u83 u84 u85 u86 u87 u88 u89 u90 u91 u92 u93 u94 u95 u96 u97 u98 u99 u100 u101 u102 u103 u104 u105 u106 u107 u108 u109 u110 u111 u112 u113 u114 u115 u116 u117 u118 u119 u120 u121 u122 u123 u124 u125 u126 u127 u128 u129 u130 u131 u132 u133 u134 u135 u136 u137 u138 u139 u140 u141 u142 u143 u144 u145 u146 u147 u148 u149 u150 u151 u152 u153 u154 u155 u156 u157 u158 u159 u160 u161 u162 u163 u164 u165 u166 u167 u168 u169 u170 u171 u172 u173 u174 u175 u176 u177 u178 u179 u180 u181 u182 u183 u184 u185 u186 u187 u188 u189 u190 u191 u192 u193 u194 u195 u196 u197 u198 u199 u200 u201 u202 u203 u204 u205 u206 u207 u208 u209 u210 u211 u212 u213 u214 u215 u216 u217 u218 u219 u220 u221 u222 u223 u224 u225 u226 u227 u228 u229 u230 u231 u232 u233 u234 u235 u236 u237 u238 u239 u240 u241 u242 u243 u244 u245 u246 u247 u248 u249 u250 u251 u252 u253 u254 u255 u256 u257 u258 u259 u260 u261 u262 u263 u264 u265 u266 u267 u268 u269 u270 u271 u272 u273 u274 u275 u276 u277 u278 u279 u280 u281 u282 u283 u284 u285 u286 u287 u288 u289 u290 u291 u292 u293 u294 u295 u296 u297 u298 u299 u300 u301 u302 u303 u304 u305 u306 u307 u308 u309 u310 u311 u312 u313 u314 u315 u316 u317 u318 u319 u320 u321 u322 u323 u324 : Value}
theorem pkf_arr {T : Two} {W wr : World} {a5 : Addr} {v5 : Value} {g L cap z6 z7 ra rb plen ia ib k i gk : Nat} {rest : List Nat} {oa ob : Bool} {R : FS × Out} {J : Nat → Act → World → Prop} {K K6 : Act → World → Prop}
  {m m2 : Nat} {u1 u2 : Ty} {ao ab af bo bbi bf : Nat} (hmi : ¬ m ≤ i) (hmm : ¬ m2 ≤ i)
  (X : KCtx T W a5 v5 g L cap z6 z7 ra rb plen) (hqk : (i :: rest).length + k = plen) (hqg : (i :: rest).length ≤ gk) (HACC : Hid (Acc W g L (i :: rest) (k + 1))) (ST : Hid (KSt T W z6 z7 ra rb ia ib (60000000 + k * 100000) ⟨.arr m u1, ao, ab, af, .arr m2 u2, bo, bbi, bf⟩ wr)) (HRR : Hid (R = fieldGo (i :: rest) ⟨.arr m u1, ao, ab, af, .arr m2 u2, bo, bbi, bf⟩))
  (hJ : ∀ k' a' w', KInv T W g L cap z6 z7 ra rb plen R c0 c2 c3 c4 c5 c11 c12 c13 c38 c39 c40 c41 c42 c43 c44 c45 c46 c47 c48 c49 c50 c51 c52 c53 c54 c55 c56 c57 c58 c59 c60 c61 c62 c63 c64 c65 c66 c67 c68 c69 c70 c325 c326 k' a' w' → J k' a' w') (hK : ∀ a' w', Handed J gk a' w' → K a' w') :
  Code.wp Tryz.prog pkfBody (Exit.then K (Exit.inBlock 0 (Exit.then K6 (bodyPost Tryz.prog Tryz.f62 (KRes T W a5 R))))) ⟨#[c0, .slice (some ⟨g, 0, none⟩) L cap, c2, c3, c4, c5, .pointer (some ⟨z6, 0, none⟩), .pointer (some ⟨z7, 0, none⟩), u8, .pointer (some ⟨ra, 0, none⟩), .pointer (some ⟨rb, 0, none⟩), c11, c12, c13, .bool oa, .bool ob, u16, u17, u18, u19, u20, u21, u22, u23, u24, u25, u26, u27, u28, u29, u30, u31, u32, u33, u34, u35, u36, u37, c38, c39, c40, c41, c42, c43, c44, c45, c46, c47, c48, c49, c50, c51, c52, c53, c54, c55, c56, c57, c58, c59, c60, c61, c62, c63, c64, c65, c66, c67, c68, c69, c70, .slice (some ⟨g, 1, none⟩) (L - 1) (cap - 1), .int .i64 ((L - 1 : Nat) : Int), .int .i64 (k : Int), u74, u75, u76, u77, u78, u79, u80, u81, u82, u83, u84, u85, u86, u87, u88, u89, u90, u91, u92, u93, u94, u95, u96, u97, u98, u99, u100, u101, u102, u103, u104, u105, u106, u107, u108, u109, u110, u111, u112, u113, u114, u115, u116, u117, u118, u119, u120, u121, u122, u123, u124, u125, u126, u127, u128, u129, u130, u131, u132, u133, u134, u135, u136, u137, u138, u139, u140, u141, u142, u143, u144, u145, u146, u147, u148, u149, u150, u151, u152, u153, u154, u155, u156, u157, u158, u159, u160, u161, u162, u163, u164, u165, u166, u167, u168, u169, u170, u171, u172, u173, u174, u175, u176, u177, u178, u179, u180, u181, u182, u183, u184, u185, u186, u187, u188, u189, u190, u191, u192, u193, u194, u195, u196, u197, u198, u199, u200, u201, u202, u203, u204, u205, u206, u207, u208, u209, u210, u211, u212, u213, u214, u215, u216, u217, u218, u219, u220, u221, u222, u223, u224, u225, u226, u227, u228, u229, u230, u231, u232, u233, u234, u235, u236, u237, u238, u239, u240, u241, u242, u243, u244, u245, u246, u247, u248, u249, u250, u251, u252, u253, u254, u255, u256, u257, u258, u259, u260, u261, u262, u263, u264, u265, u266, u267, u268, u269, u270, u271, u272, u273, u274, u275, u276, u277, u278, u279, u280, u281, u282, u283, u284, u285, u286, u287, u288, u289, u290, u291, u292, u293, u294, u295, u296, u297, u298, u299, u300, u301, u302, u303, u304, u305, u306, u307, u308, u309, u310, u311, u312, u313, u314, u315, u316, u317, u318, u319, u320, u321, u322, u323, u324, c325, c326], []⟩ wr := by
 obtain ⟨hL, hg, hcap, hlen, hL2, DD, PK, S5, O5, LA⟩ := X
 have HD := Lib.hid DD
 have HPK := Lib.hid PK
 have HO5 := Lib.hid O5
 have HS5 := Lib.hid S5
 have HLA := Lib.hid LA
 clear PK O5 S5 LA
 obtain ⟨F6a, F6b, F7a, F7b⟩ := DD.far
 have hab := DD.dab
 have hab' := DD.dab.symm
 clear DD
 have hLp : (1 : Int) ≤ L := by omega
 have hcapp : (L : Int) ≤ cap := by omega
 have hc2 : (2 : Int) ≤ cap := by omega
 simp only [List.length_cons] at hqk hqg
 have hkL : (k : Int) < L - 1 := by omega
 have hkL' : ¬ ((L : Int) - 1 ≤ k) := by omega
 obtain ⟨hi0, hi1⟩ := HACC.out.2 0 i rfl
 have HACC1 := Lib.hid HACC.out.tail
 have hi2 := (ST.out.old.cell (p := ⟨g, k + 1 + 0, none⟩) hg).trans hi0
 rw [Nat.add_zero, Nat.add_comm] at hi2
 have gl := Nat.lt_of_lt_of_le hg ST.out.old.size
 clear hi0 HACC
 have TA : Hid (RT T.f1 ia (.arr m u1)) := Lib.hid ST.out.ta
 have TB : Hid (RT T.f2 ib (.arr m2 u2)) := Lib.hid ST.out.tb
 have PKw := HPK.out.ck (CellsKept.below ST.out.old)
 have hun := underlying_any wr T.n1 T.og1 ia T.f1 T.pt1 T.ob1 PKw.i.h1 ST.out.la PKw.i.p1
 obtain ⟨hpt, hund, j1, hj1, rj1, a1, a2⟩ := PKw.i.h1.arrF PKw.r1 ST.out.la TA.out
 rw [hund] at hun
 obtain ⟨hca, har⟩ := PKw.i.h1.arrT PKw.r1 ST.out.la TA.out
 obtain ⟨hu, hm1, hm6⟩ := ST.out.oka.arr
 have HU := Lib.hid hu
 have HJ1 := Lib.hid hj1
 have RJ1 := Lib.hid rj1
 have al1 := World.block_lt_of_cell? _ _ a1
 have HUN := Lib.hid hun
 have hm0 : ¬ (m : Int) = 0 := by omega
 have hm0' : (0 : Int) < m := by omega
 clear hu hpt hund hj1 rj1 hun
 obtain ⟨-, -, j2, hj2, rj2, b1, b2⟩ := PKw.i.h2.arrF PKw.r2 ST.out.lb TB.out
 have HAB := Lib.hid (asArr_yes PKw.i.h2 ST.out.lb PKw.i.p2 TB.out)
 obtain ⟨hu2, hn1, hn6⟩ := ST.out.okb.arr
 have HU2 := Lib.hid hu2
 have HJ2 := Lib.hid hj2
 have RJ2 := Lib.hid rj2
 have bl1 := World.block_lt_of_cell? _ _ b1
 have hn0 : ¬ (m2 : Int) = 0 := by omega
 have hn0' : (0 : Int) < m2 := by omega
 clear hu2 hj2 rj2 PKw
 have hmiI : ¬ (m : Int) ≤ i := by omega
 have hmmI : ¬ (m2 : Int) ≤ i := by omega
 have hst : stepF ⟨.arr m u1, ao, ab, af, .arr m2 u2, bo, bbi, bf⟩ i rest.isEmpty = (⟨u1, ao + i * u1.bytes, 0, 0, u2, bo + i * u2.bytes, 0, 0⟩, if cmpF u1 u2 = true then none else some .poison) := by
  unfold stepF; simp only [if_neg hmi, if_neg hmm]
 have HGO : Hid (R = if cmpF u1 u2 = true then fieldGo rest ⟨u1, ao + i * u1.bytes, 0, 0, u2, bo + i * u2.bytes, 0, 0⟩ else (⟨u1, ao + i * u1.bytes, 0, 0, u2, bo + i * u2.bytes, 0, 0⟩, .poison)) := Lib.hid (HRR.out.trans (by
  by_cases hc : cmpF u1 u2 = true
  ·rw [if_pos hc] at hst ⊢; exact fieldGo_on hst
  ·rw [if_neg hc] at hst ⊢; exact fieldGo_stop hst))
 clear hst
 have hu8 : i * u1.bytes ≤ 255 * 8 := Nat.mul_le_mul hi1 HU.out.flat.2.1
 have hv8 : i * u2.bytes ≤ 255 * 8 := Nat.mul_le_mul hi1 HU2.out.flat.2.1
 have hao : ao ≤ 60000000 + k * 100000 := ST.out.bnd.1
 have hbo : bo ≤ 60000000 + k * 100000 := ST.out.bnd.2
 have H8 := Lib.hid (And.intro hu8 hv8)
 clear hmi hmm hu8 hv8
 obtain ⟨ea0, ea1, ea2, ea3⟩ := ST.out.ba.four
 obtain ⟨eb0, eb1, eb2, eb3⟩ := ST.out.bb.four
 have xal := ST.out.ba.lt
 have xbl := ST.out.bb.lt
 conv => arg 2; whnf
 go_wp2_with fail
 refine HUN.out.mono ?_
 rintro e w5 ⟨rfl, rfl⟩
 obtain ⟨wr, rfl⟩ : ∃ z : World, z = w5 := ⟨_, rfl⟩
 clear HUN
 go_wp2_with fail
 refine HAB.out.mono ?_
 rintro e w5 ⟨rfl, rfl⟩
 obtain ⟨wr, rfl⟩ : ∃ z : World, z = w5 := ⟨_, rfl⟩
 clear HAB hca har
 have fa0 := ST.out.ba.free 0
 have fa1 := ST.out.ba.free 1
 have fa2 := ST.out.ba.free 2
 have fa3 := ST.out.ba.free 3
 have HBC : Hid (Below W.heap.size W wr) := Lib.hid ST.out.old
 have HB1 : Hid (∀ w', Below W.heap.size W w' → w'.cell? ⟨T.ob2 (ib + 1), 1, none⟩ = some (objAt T.pt2 T.ob2 j2) ∧ T.ob2 (ib + 1) < w'.heap.size) := Lib.hid fun w' hw' => by
  obtain ⟨-, -, j3, -, -, b3, -⟩ := HPK.out.i.h2.arrF HPK.out.r2 ST.out.lb TB.out
  have b4 := (HBC.out.cell (p := ⟨T.ob2 (ib + 1), 1, none⟩) (World.block_lt_of_cell? _ _ b3)).trans b3
  rw [b1] at b4
  have b5 := (hw'.cell (p := ⟨T.ob2 (ib + 1), 1, none⟩) (World.block_lt_of_cell? _ _ b3)).trans b3
  rw [← b4] at b5
  exact ⟨b5, World.block_lt_of_cell? _ _ b5⟩
 go_upto_region 66 with fail
 apply wp_meet0 (fun w' => Hid (KSt T W z6 z7 ra rb j1 ib (60000000 + (k + 1) * 100000) ⟨u1, ao, 0, 0, .arr m2 u2, bo, bbi, bf⟩ w'))
 case h1 =>
  refine AnyR.start (wr := [7]) (rd := (fun cls => match cls with | 0 => [3] | 1 => [5] | 2 => [0, 1, 2, 4, 6] | _ + 3 => [])) (Sf := (fun cls w' => match cls with | 0 => w'.cell? ⟨T.ob1 (ia + 1), 1, none⟩ = some (objAt T.pt1 T.ob1 j1) | 1 => w'.cell? ⟨ra, 1, none⟩ = some (.int .u32 (ao : Nat)) | 2 => True | _ + 3 => True)) (by as_aux_lemma => kernel_rfl) (fun cls => match cls with | 0 => a1 | 1 => ea1 | 2 => trivial | _ + 3 => trivial) (fun hHeld => ?_)
  refine AnyR.tk (i := 0) 2 (v := ?_) rfl (by as_aux_lemma => kernel_rfl) (fun _ _ _ h => h) hHeld (by rfl) ?_ ?_
  rotate_left
  focus (intro w h; clear h; go_simp <;> with_reducible rfl)
  clear hHeld
  intro hHeld
  try simp only [Act.put, zl1, zl2, zl3, zl4, zl5, zl6]
  refine AnyR.tk (i := 4) 2 (v := ?_) rfl (by as_aux_lemma => kernel_rfl) (fun _ _ _ h => h) hHeld (by rfl) ?_ ?_
  rotate_left
  focus (intro w h; clear h; go_simp <;> with_reducible rfl)
  clear hHeld
  intro hHeld
  try simp only [Act.put, zl1, zl2, zl3, zl4, zl5, zl6]
  refine AnyR.tk (i := 1) 2 (v := ?_) rfl (by as_aux_lemma => kernel_rfl) (fun _ _ _ h => h) hHeld (by rfl) ?_ ?_
  rotate_left
  focus (intro w h; clear h; go_simp <;> with_reducible rfl)
  clear hHeld
  intro hHeld
  try simp only [Act.put, zl1, zl2, zl3, zl4, zl5, zl6]
  refine AnyR.tk (i := 5) 1 (v := ?_) rfl (by as_aux_lemma => kernel_rfl) (fun _ _ _ h => h) hHeld (by rfl) ?_ ?_
  rotate_left
  focus (intro w hSw0; have hSw : (fun w' : World => w'.cell? ⟨ra, 1, none⟩ = some (.int .u32 (ao : Nat))) w := hSw0; clear hSw0; (try dsimp only at hSw); go_simp <;> with_reducible rfl)
  clear hHeld
  intro hHeld
  try simp only [Act.put, zl1, zl2, zl3, zl4, zl5, zl6]
  refine AnyR.tk (i := 2) 2 (v := ?_) rfl (by as_aux_lemma => kernel_rfl) (fun _ _ _ h => h) hHeld (by rfl) ?_ ?_
  rotate_left
  focus (intro w h; clear h; go_simp <;> with_reducible rfl)
  clear hHeld
  intro hHeld
  try simp only [Act.put, zl1, zl2, zl3, zl4, zl5, zl6]
  refine AnyR.tk (i := 3) 0 (v := ?_) rfl (by as_aux_lemma => kernel_rfl) (fun _ _ _ h => h) hHeld (by rfl) ?_ ?_
  rotate_left
  focus (intro w hSw0; have hSw : (fun w' : World => w'.cell? ⟨T.ob1 (ia + 1), 1, none⟩ = some (objAt T.pt1 T.ob1 j1)) w := hSw0; clear hSw0; (try dsimp only at hSw); go_simp <;> with_reducible rfl)
  clear hHeld
  intro hHeld
  try simp only [Act.put, zl1, zl2, zl3, zl4, zl5, zl6]
  refine AnyR.tk (i := 6) 2 (v := ?_) rfl (by as_aux_lemma => kernel_rfl) (fun _ _ _ h => h) hHeld (by rfl) ?_ ?_
  rotate_left
  focus (intro w h; clear h; go_simp <;> with_reducible rfl)
  clear hHeld
  intro hHeld
  try simp only [Act.put, zl1, zl2, zl3, zl4, zl5, zl6]
  refine AnyR.one (i := 7) (by as_aux_lemma => kernel_rfl) rfl (fun K hK => ?_)
  go_simp
  refine hK.out _ _ (fun cls => match cls with | 0 => .inl (by as_aux_lemma => kernel_rfl) | 1 => .inl (by as_aux_lemma => kernel_rfl) | 2 => .inr trivial | _ + 3 => .inr trivial) (fun hHeld => ?_)
  clear hK K
  try simp only [Act.put, zl1, zl2, zl3, zl4, zl5, zl6]
  refine AnyR.end_ (by as_aux_lemma => kernel_rfl) ?_
  exact ⟨Lib.hid (KSt.drew (ST.out.putA HD.out rfl rfl rfl rfl rfl rfl rfl RJ1.out HJ1.out (.leaf (.int HU.out)) ⟨by (try dsimp only) <;> omega, by (try dsimp only) <;> omega⟩)), rfl⟩
 case h2 =>
  intro wY STY
  clear a1 a2 b1 b2 al1 bl1 ea0 ea1 ea2 ea3 eb0 eb1 eb2 eb3 xal xbl fa0 fa1 fa2 fa3 ST hi2 gl
  have PKY := HPK.out.ck (CellsKept.below STY.out.old)
  have HADA := Lib.hid (adjustN_any (n := i) STY.out.ba (size_fok PKY.i.h1 (.leaf (.int HU.out)) RJ1.out HJ1.out PKY.r1) hi1 (by have := HU.out.flat.2.1; omega) (by (try dsimp only) <;> omega))
  clear PKY
  go_wp2_with fail
  refine HADA.out.mono ?_
  rintro e w7 ⟨rfl, hb7, hm7⟩
  have ST7 : Hid (KSt T W z6 z7 ra rb j1 ib (60000000 + (k + 1) * 100000) ⟨u1, ao + i * u1.bytes, 0, 0, .arr m2 u2, bo, bbi, bf⟩ w7) := Lib.hid (STY.out.butA HD.out hb7 hm7 rfl rfl rfl rfl rfl ⟨by have := H8.out.1; (try dsimp only) <;> omega, by (try dsimp only) <;> omega⟩)
  clear HADA hb7 hm7 STY
  obtain ⟨b1, bl1⟩ := HB1.out w7 ST7.out.old
  obtain ⟨ea0, ea1, ea2, ea3⟩ := ST7.out.ba.four
  obtain ⟨eb0, eb1, eb2, eb3⟩ := ST7.out.bb.four
  have xal := ST7.out.ba.lt
  have xbl := ST7.out.bb.lt
  have fb0 := ST7.out.bb.free 0
  have fb1 := ST7.out.bb.free 1
  have fb2 := ST7.out.bb.free 2
  have fb3 := ST7.out.bb.free 3
  go_upto_region 71 with fail
  apply wp_meet0 (fun w' => Hid (KSt T W z6 z7 ra rb j1 j2 (60000000 + (k + 1) * 100000) ⟨u1, ao + i * u1.bytes, 0, 0, u2, bo, 0, 0⟩ w'))
  case h1 =>
   refine AnyR.start (wr := [7]) (rd := (fun cls => match cls with | 0 => [3] | 1 => [5] | 2 => [0, 1, 2, 4, 6] | _ + 3 => [])) (Sf := (fun cls w' => match cls with | 0 => w'.cell? ⟨T.ob2 (ib + 1), 1, none⟩ = some (objAt T.pt2 T.ob2 j2) | 1 => w'.cell? ⟨rb, 1, none⟩ = some (.int .u32 (bo : Nat)) | 2 => True | _ + 3 => True)) (by as_aux_lemma => kernel_rfl) (fun cls => match cls with | 0 => b1 | 1 => eb1 | 2 => trivial | _ + 3 => trivial) (fun hHeld => ?_)
   refine AnyR.tk (i := 0) 2 (v := ?_) rfl (by as_aux_lemma => kernel_rfl) (fun _ _ _ h => h) hHeld (by rfl) ?_ ?_
   rotate_left
   focus (intro w h; clear h; go_simp <;> with_reducible rfl)
   clear hHeld
   intro hHeld
   try simp only [Act.put, zl1, zl2, zl3, zl4, zl5, zl6]
   refine AnyR.tk (i := 4) 2 (v := ?_) rfl (by as_aux_lemma => kernel_rfl) (fun _ _ _ h => h) hHeld (by rfl) ?_ ?_
   rotate_left
   focus (intro w h; clear h; go_simp <;> with_reducible rfl)
   clear hHeld
   intro hHeld
   try simp only [Act.put, zl1, zl2, zl3, zl4, zl5, zl6]
   refine AnyR.tk (i := 1) 2 (v := ?_) rfl (by as_aux_lemma => kernel_rfl) (fun _ _ _ h => h) hHeld (by rfl) ?_ ?_
   rotate_left
   focus (intro w h; clear h; go_simp <;> with_reducible rfl)
   clear hHeld
   intro hHeld
   try simp only [Act.put, zl1, zl2, zl3, zl4, zl5, zl6]
   refine AnyR.tk (i := 5) 1 (v := ?_) rfl (by as_aux_lemma => kernel_rfl) (fun _ _ _ h => h) hHeld (by rfl) ?_ ?_
   rotate_left
   focus (intro w hSw0; have hSw : (fun w' : World => w'.cell? ⟨rb, 1, none⟩ = some (.int .u32 (bo : Nat))) w := hSw0; clear hSw0; (try dsimp only at hSw); go_simp <;> with_reducible rfl)
   clear hHeld
   intro hHeld
   try simp only [Act.put, zl1, zl2, zl3, zl4, zl5, zl6]
   refine AnyR.tk (i := 2) 2 (v := ?_) rfl (by as_aux_lemma => kernel_rfl) (fun _ _ _ h => h) hHeld (by rfl) ?_ ?_
   rotate_left
   focus (intro w h; clear h; go_simp <;> with_reducible rfl)
   clear hHeld
   intro hHeld
   try simp only [Act.put, zl1, zl2, zl3, zl4, zl5, zl6]
   refine AnyR.tk (i := 3) 0 (v := ?_) rfl (by as_aux_lemma => kernel_rfl) (fun _ _ _ h => h) hHeld (by rfl) ?_ ?_
   rotate_left
   focus (intro w hSw0; have hSw : (fun w' : World => w'.cell? ⟨T.ob2 (ib + 1), 1, none⟩ = some (objAt T.pt2 T.ob2 j2)) w := hSw0; clear hSw0; (try dsimp only at hSw); go_simp <;> with_reducible rfl)
   clear hHeld
   intro hHeld
   try simp only [Act.put, zl1, zl2, zl3, zl4, zl5, zl6]
   refine AnyR.tk (i := 6) 2 (v := ?_) rfl (by as_aux_lemma => kernel_rfl) (fun _ _ _ h => h) hHeld (by rfl) ?_ ?_
   rotate_left
   focus (intro w h; clear h; go_simp <;> with_reducible rfl)
   clear hHeld
   intro hHeld
   try simp only [Act.put, zl1, zl2, zl3, zl4, zl5, zl6]
   refine AnyR.one (i := 7) (by as_aux_lemma => kernel_rfl) rfl (fun K hK => ?_)
   go_simp
   refine hK.out _ _ (fun cls => match cls with | 0 => .inl (by as_aux_lemma => kernel_rfl) | 1 => .inl (by as_aux_lemma => kernel_rfl) | 2 => .inr trivial | _ + 3 => .inr trivial) (fun hHeld => ?_)
   clear hK K
   try simp only [Act.put, zl1, zl2, zl3, zl4, zl5, zl6]
   refine AnyR.end_ (by as_aux_lemma => kernel_rfl) ?_
   exact ⟨Lib.hid (KSt.drew (ST7.out.putB HD.out rfl rfl rfl rfl rfl rfl rfl RJ2.out HJ2.out (.leaf (.int HU2.out)) ⟨ST7.out.bnd.1, by (try dsimp only) <;> omega⟩)), rfl⟩
  case h2 =>
   intro wX STX
   clear b1 bl1 ea0 ea1 ea2 ea3 eb0 eb1 eb2 eb3 xal xbl fb0 fb1 fb2 fb3 ST7
   have PKX := HPK.out.ck (CellsKept.below STX.out.old)
   have HADB := Lib.hid (adjustN_any (n := i) STX.out.bb (size_fok PKX.i.h2 (.leaf (.int HU2.out)) RJ2.out HJ2.out PKX.r2) hi1 (by have := HU2.out.flat.2.1; omega) (by (try dsimp only) <;> omega))
   clear PKX
   go_wp2_with fail
   refine HADB.out.mono ?_
   rintro e w8 ⟨rfl, hb8, hm8⟩
   have ST2 : Hid (KSt T W z6 z7 ra rb j1 j2 (60000000 + (k + 1) * 100000) ⟨u1, ao + i * u1.bytes, 0, 0, u2, bo + i * u2.bytes, 0, 0⟩ w8) := Lib.hid (STX.out.butB HD.out hb8 hm8 rfl rfl rfl rfl rfl ⟨STX.out.bnd.1, by have := H8.out.2; (try dsimp only) <;> omega⟩)
   clear HADB hb8 hm8 STX
   obtain ⟨s2, hs2⟩ : ∃ s2 : FS, s2 = ⟨u1, ao + i * u1.bytes, 0, 0, u2, bo + i * u2.bytes, 0, 0⟩ := ⟨_, rfl⟩
   have HGO : Hid (R = if cmpF s2.a s2.b = true then fieldGo rest s2 else (s2, .poison)) := by rw [hs2]; exact HGO
   rw [← hs2] at ST2
   obtain ⟨p1, hp1⟩ : ∃ z, z = j1 := ⟨_, rfl⟩
   obtain ⟨q1, hq1⟩ : ∃ z, z = j2 := ⟨_, rfl⟩
   rw [← hp1, ← hq1] at ST2
   clear hs2 hp1 hq1
   obtain ⟨ua, uo, ub, uf, va, vo, vb, vf⟩ := s2
   have e0 := (ST2.out.ba.four).1
   have e1 := (ST2.out.bb.four).1
   have el := ST2.out.ba.lt
   have fl := ST2.out.bb.lt
   have hcp := pcompat_any (HPK.out.ck (CellsKept.below ST2.out.old)) ST2.out.oka ST2.out.okb ST2.out.ta ST2.out.tb ST2.out.la ST2.out.lb
   by_cases hcf : cmpF ua va = true
   ·rw [if_pos hcf] at hcp
    have HR2 : Hid (R = fieldGo rest ⟨ua, uo, ub, uf, va, vo, vb, vf⟩) := Lib.hid (HGO.out.trans (if_pos hcf))
    have HCP := Lib.hid hcp
    clear hcf HGO hcp
    go_wp2_with fail
    refine HCP.out.mono ?_
    rintro e w9 ⟨rfl, nd, hw9⟩
    have ST3 : Hid (KSt T W z6 z7 ra rb p1 q1 (60000000 + (k + 1) * 100000) ⟨ua, uo, ub, uf, va, vo, vb, vf⟩ w9) := Lib.hid (ST2.out.below (by rw [hw9]; exact below_drewN (Below.refl _ _) _) (Nat.le_refl _))
    clear hw9 ST2 HCP e0 e1 el fl
    have hwk : IntKind.i64.wrap ((k : Int) + 1) = ((k + 1 : Nat) : Int) := IntWalk.i64_in _ (by omega)
    go_wp2_with fail
    go_roundg rest.length
    case measure => omega
    case rel => exact ⟨rest, k + 1, _, p1, q1, _, _, by omega, Nat.le_refl _, by first | rfl | (simp only [hwk]; done) | omega, rfl, rfl, HACC1, ST3, HR2⟩
   ·rw [if_neg hcf] at hcp
    have HRES : Hid (R = (⟨ua, uo, ub, uf, va, vo, vb, vf⟩, .poison)) := Lib.hid (HGO.out.trans (if_neg hcf))
    have HCP := Lib.hid hcp
    clear hcf HGO hcp
    go_wp2_with fail
    refine HCP.out.mono ?_
    rintro e w9 ⟨rfl, nd, hw9⟩
    have ST3 : Hid (KSt T W z6 z7 ra rb p1 q1 (60000000 + (k + 1) * 100000) ⟨ua, uo, ub, uf, va, vo, vb, vf⟩ w9) := Lib.hid (ST2.out.below (by rw [hw9]; exact below_drewN (Below.refl _ _) _) (Nat.le_refl _))
    clear hw9 ST2 HCP e0 e1 el fl
    have k60 := ST3.out.b6.free 0
    have k61 := ST3.out.b6.free 1
    have k62 := ST3.out.b6.free 2
    have k63 := ST3.out.b6.free 3
    have k70 := ST3.out.b7.free 0
    have k71 := ST3.out.b7.free 1
    have k72 := ST3.out.b7.free 2
    have k73 := ST3.out.b7.free 3
    have k6l := ST3.out.b6.lt
    have k7l := ST3.out.b7.lt
    obtain ⟨z60, z61, z62, z63⟩ := ST3.out.b6.four
    obtain ⟨z70, z71, z72, z73⟩ := ST3.out.b7.four
    have d67 := HD.out.d67
    have d76 := HD.out.d67.symm
    go_upto_region 78 with fail
    apply wp_meet0 (fun w' => Hid (KEnd W z6 z7 (cfC .nilIface 0 0 0) (cfC .nilIface 0 0 0) w' ∧ True))
    case h1 =>
     go_wp2_with fail
     exact ⟨Lib.hid ⟨ST3.out.zeros HD.out, trivial⟩, rfl⟩
    case h2 =>
     intro w4 PE
     clear k60 k61 k62 k63 k70 k71 k72 k73 k6l k7l z60 z61 z62 z63 z70 z71 z72 z73 d67 d76
     obtain ⟨y0, y1, y2, y3⟩ := PE.out.1.b6.four
     obtain ⟨x0, x1, x2, x3⟩ := PE.out.1.b7.four
     have yl := PE.out.1.b6.lt
     have xl := PE.out.1.b7.lt
     go_wp2_with fail
     refine bodyPost_ret (v := .tuple #[.agg (cfC .nilIface 0 0 0), .agg (cfC .nilIface 0 0 0), (.iface 228 (.pointer (some a5)))]) ?_ rfl ⟨PE.out.1.old, by rw [HRES.out] <;> exact rfl⟩
     rw [results_cct rfl]
     go_simp
end
end Go.Proofs.YtfilbgmbmlmdbaaGreatDoor
