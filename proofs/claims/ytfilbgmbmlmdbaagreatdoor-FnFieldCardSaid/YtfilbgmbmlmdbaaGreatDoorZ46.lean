/- The search for a field by an accessor: leaves of a round. Nothing is claimed here. -/
import Derived.Test.YtfilbgmbmlmdbaaGreatDoorZ16
set_option linter.unusedSimpArgs false
set_option linter.unusedVariables false
set_option maxRecDepth 1000000
set_option maxHeartbeats 16000000
namespace Go.Proofs.YtfilbgmbmlmdbaaGreatDoor
open Go.RowKit Go.MapKept
section
variable {c0 c2 c3 c4 c5 c20 c21 c22 c23 c24 c25 c26 c27 c28 c29 c30 c31 c32 c33 c34 c35 c36 c37 c38 c39 c40 c41 c42 c43 c44 c284 c285 u8 u13 u14 u15 u16 u17 u18 u19 u48 u49 u50 u51 u52 u53 u54 u55 u56 u57 u58 u59 u60 u61 u62 u63 u64 u65 u66 u67 u68 u69 u70 u71 u72 u73 u74 u75 u76 u77 u78 u79 u80 u81 u82 u83 u84 u85 u86 u87 u88 u89 u90 u91 u92 u93 u94 u95 u96 u97 u98 u99 u100 u101 u102 u103 u104 u105 u106 u107 u108 u109 u110 u111 u112 u113 u114 u115 u116 u117 u118 u119 u120 u121 u122 u123 u124 u125 u126 u127 u128 u129 u130 u131 u132 u133 u134 u135 u136 u137 u138 u139 u140 u141 u142 u143 u144 u145 u146 u147 u148 u149 u150 u151 u152 u153 u154 u155 u156 u157 u158 u159 u160 u161 u162 u163 u164 u165 u166 u167 u168 u169 u170 u171 u172 u173 u174 u175 u176 u177 u178 u179 u180 u181 u182 u183 u184 u185 u186 u187 u188 u189 u190 u191 u192 u193 u194 u195 u196 u197 u198 u199 u200 u201 u202 u203 u204 u205 u206 u207 u208 u209 u210 u211 u212 u213 u214 u215 u216 u217 u218 u219 u220 u221 u222 u223 u224 u225 u226 u227 u228 u229 u230 u231 u232 u233 u234 u235 u236 u237 u238 u239 u240 u241 u242 u243 u244 u245 u246 u247 u248 u249 u250 u251 u252 u253 u254 u255 u256 u257 u258 u259 u260 u261 u262 u263 u264 u265 u266 u267 u268 u269 u270 u271 u272 u273 u274 u275 u276 u277 u278 u279 u280 u281 u282 u283 : Value}
theorem fld_arr37 {W wr : World} {g L cap z6 z7 ra rb plen pa pb k i gk : Nat} {rest : List Nat} {oa ob : Bool} {R : FS × Out} {J : Nat → Act → World → Prop} {K K6 : Act → World → Prop}
  {m m2 : Nat} {u1 u2 : Ty} {ao ab af bo bbi bf : Nat} (hmi : ¬ m ≤ i) (hmm : m2 ≤ i)
  (X : FCtx W g L cap z6 z7 ra rb plen) (hqk : (i :: rest).length + k = plen) (hqg : (i :: rest).length ≤ gk) (HACC : Hid (Acc W g L (i :: rest) (k + 1))) (ST : Hid (FSt W z6 z7 ra rb pa pb (60000000 + k * 100000) ⟨.arr m u1, ao, ab, af, .arr m2 u2, bo, bbi, bf⟩ wr)) (HRR : Hid (R = fieldGo (i :: rest) ⟨.arr m u1, ao, ab, af, .arr m2 u2, bo, bbi, bf⟩))
  (hJ : ∀ k' a' w', FInv W g L cap z6 z7 ra rb plen R c0 c2 c3 c4 c5 c20 c21 c22 c23 c24 c25 c26 c27 c28 c29 c30 c31 c32 c33 c34 c35 c36 c37 c38 c39 c40 c41 c42 c43 c44 c284 c285 k' a' w' → J k' a' w') (hK : ∀ a' w', Handed J gk a' w' → K a' w') :
  Code.wp Tryz.prog fldBody (Exit.then K (Exit.inBlock 0 (Exit.then K6 (bodyPost Tryz.prog Tryz.f11 (FRes W R))))) ⟨#[c0, .slice (some ⟨g, 0, none⟩) L cap, c2, c3, c4, c5, .pointer (some ⟨z6, 0, none⟩), .pointer (some ⟨z7, 0, none⟩), u8, .pointer (some ⟨ra, 0, none⟩), .pointer (some ⟨rb, 0, none⟩), .bool oa, .bool ob, u13, u14, u15, u16, u17, u18, u19, c20, c21, c22, c23, c24, c25, c26, c27, c28, c29, c30, c31, c32, c33, c34, c35, c36, c37, c38, c39, c40, c41, c42, c43, c44, .slice (some ⟨g, 1, none⟩) (L - 1) (cap - 1), .int .i64 ((L - 1 : Nat) : Int), .int .i64 (k : Int), u48, u49, u50, u51, u52, u53, u54, u55, u56, u57, u58, u59, u60, u61, u62, u63, u64, u65, u66, u67, u68, u69, u70, u71, u72, u73, u74, u75, u76, u77, u78, u79, u80, u81, u82, u83, u84, u85, u86, u87, u88, u89, u90, u91, u92, u93, u94, u95, u96, u97, u98, u99, u100, u101, u102, u103, u104, u105, u106, u107, u108, u109, u110, u111, u112, u113, u114, u115, u116, u117, u118, u119, u120, u121, u122, u123, u124, u125, u126, u127, u128, u129, u130, u131, u132, u133, u134, u135, u136, u137, u138, u139, u140, u141, u142, u143, u144, u145, u146, u147, u148, u149, u150, u151, u152, u153, u154, u155, u156, u157, u158, u159, u160, u161, u162, u163, u164, u165, u166, u167, u168, u169, u170, u171, u172, u173, u174, u175, u176, u177, u178, u179, u180, u181, u182, u183, u184, u185, u186, u187, u188, u189, u190, u191, u192, u193, u194, u195, u196, u197, u198, u199, u200, u201, u202, u203, u204, u205, u206, u207, u208, u209, u210, u211, u212, u213, u214, u215, u216, u217, u218, u219, u220, u221, u222, u223, u224, u225, u226, u227, u228, u229, u230, u231, u232, u233, u234, u235, u236, u237, u238, u239, u240, u241, u242, u243, u244, u245, u246, u247, u248, u249, u250, u251, u252, u253, u254, u255, u256, u257, u258, u259, u260, u261, u262, u263, u264, u265, u266, u267, u268, u269, u270, u271, u272, u273, u274, u275, u276, u277, u278, u279, u280, u281, u282, u283, c284, c285], []⟩ wr := by
 obtain ⟨hL, hg, hcap, hlen, hL2, DD⟩ := X
 have HD := Lib.hid DD
 obtain ⟨F6a, F6b, F7a, F7b⟩ := DD.far
 have hab := DD.dab
 have hab' := DD.dab.symm
 clear DD
 have hLp : (1 : Int) ≤ L := by omega
 have hcapp : (L : Int) ≤ cap := by omega
 have hc2 : (2 : Int) ≤ cap := by omega
 simp only [List.length_cons] at hqk hqg
 have hkL : (k : Int) < L - 1 := by omega
 have hkL' : ¬ ((L : Int) - 1 ≤ k) := by omega
 obtain ⟨hi0, hi1⟩ := HACC.out.2 0 i rfl
 have HACC1 := Lib.hid HACC.out.tail
 have hi2 := (ST.out.old.cell (p := ⟨g, k + 1 + 0, none⟩) hg).trans hi0
 rw [Nat.add_zero, Nat.add_comm] at hi2
 have gl := Nat.lt_of_lt_of_le hg ST.out.old.size
 clear hi0 HACC
 have RA : Hid (Rep wr Nowhere pa (.arr m u1)) := Lib.hid (ST.out.ta.old ST.out.old)
 have TA : Hid (Rep W Nowhere pa (.arr m u1)) := Lib.hid ST.out.ta
 have TB : Hid (Rep W Nowhere pb (.arr m2 u2)) := Lib.hid ST.out.tb
 have hcm := composite_any RA.out
 have pal := RA.out.lt
 obtain ⟨c1, pa0, pa2, pa4, RC1⟩ := TA.out.elem
 rw [show isC (.arr m u1) = false from rfl] at hcm
 have RC1 := Lib.hid RC1
 obtain ⟨hu, hm1, hm6⟩ := ST.out.oka.arr
 have HU := Lib.hid hu
 have pa0 := (ST.out.old.cell (p := ⟨pa, 0, none⟩) TA.out.lt).trans pa0
 have pa2 := (ST.out.old.cell (p := ⟨pa, 2, none⟩) TA.out.lt).trans pa2
 have pa4 := (ST.out.old.cell (p := ⟨pa, 4, none⟩) TA.out.lt).trans pa4
 have pbl := (ST.out.tb.old ST.out.old).lt
 clear hu
 obtain ⟨ea0, ea1, ea2, ea3⟩ := ST.out.ba.four
 obtain ⟨eb0, eb1, eb2, eb3⟩ := ST.out.bb.four
 have xal := ST.out.ba.lt
 have xbl := ST.out.bb.lt
 have hm0 : ¬ (m : Int) = 0 := by omega
 have hm0' : (0 : Int) < m := by omega
 obtain ⟨c2, pb0, pb2, pb4, RC2⟩ := TB.out.elem
 have RC2 := Lib.hid RC2
 have pb0 := (ST.out.old.cell (p := ⟨pb, 0, none⟩) TB.out.lt).trans pb0
 have pb2 := (ST.out.old.cell (p := ⟨pb, 2, none⟩) TB.out.lt).trans pb2
 have pb4 := (ST.out.old.cell (p := ⟨pb, 4, none⟩) TB.out.lt).trans pb4
 obtain ⟨hu2, hn1, hn6⟩ := ST.out.okb.arr
 have HU2 := Lib.hid hu2
 clear hu2
 have hn0 : ¬ (m2 : Int) = 0 := by omega
 have hn0' : (0 : Int) < m2 := by omega
 have hmiI : ¬ (m : Int) ≤ i := by omega
 have hmmI : (m2 : Int) ≤ i := by omega
 have HRES : Hid (R = (⟨.arr m u1, ao, ab, af, .arr m2 u2, bo, bbi, bf⟩, .poison)) := Lib.hid (HRR.out.trans (fieldGo_stop (by unfold stepF; simp only [if_neg hmi, if_pos hmm])))
 clear hmi hmm
 conv => arg 2; whnf
 go_wp2_with fail
 refine hcm.mono ?_
 rintro e w5 ⟨rfl, rfl⟩
 obtain ⟨ea0, ea1, ea2, ea3⟩ := ST.out.ba.four
 obtain ⟨eb0, eb1, eb2, eb3⟩ := ST.out.bb.four
 have k60 := ST.out.b6.free 0
 have k61 := ST.out.b6.free 1
 have k62 := ST.out.b6.free 2
 have k63 := ST.out.b6.free 3
 have k70 := ST.out.b7.free 0
 have k71 := ST.out.b7.free 1
 have k72 := ST.out.b7.free 2
 have k73 := ST.out.b7.free 3
 have k6l := ST.out.b6.lt
 have k7l := ST.out.b7.lt
 obtain ⟨z60, z61, z62, z63⟩ := ST.out.b6.four
 obtain ⟨z70, z71, z72, z73⟩ := ST.out.b7.four
 have xal := ST.out.ba.lt
 have xbl := ST.out.bb.lt
 have d67 := HD.out.d67
 have d76 := HD.out.d67.symm
 have f6a := F6a.out
 have f6b := F6b.out
 have f7a := F7a.out
 have f7b := F7b.out
 go_upto_region 37 with fail
 apply wp_meet0 (fun w' => Hid (FEnd W z6 z7 pa ao ab af pb bo bbi bf w'))
 case h1 =>
  refine AnyR.start (wr := [3, 2]) (rd := (fun cls => match cls with | 0 => [0, 1] | 1 => [4] | _ + 2 => [])) (Sf := (fun cls w' => match cls with | 0 => w'.cell? ⟨ra, 0, none⟩ = some (.pointer (some ⟨pa, 0, none⟩)) ∧ w'.cell? ⟨ra, 1, none⟩ = some (.int .i64 (ao : Nat)) ∧ w'.cell? ⟨ra, 2, none⟩ = some (.int .i64 (ab : Nat)) ∧ w'.cell? ⟨ra, 3, none⟩ = some (.int .i64 (af : Nat)) ∧ w'.cell? ⟨rb, 0, none⟩ = some (.pointer (some ⟨pb, 0, none⟩)) ∧ w'.cell? ⟨rb, 1, none⟩ = some (.int .i64 (bo : Nat)) ∧ w'.cell? ⟨rb, 2, none⟩ = some (.int .i64 (bbi : Nat)) ∧ w'.cell? ⟨rb, 3, none⟩ = some (.int .i64 (bf : Nat)) | 1 => True | _ + 2 => True)) (by as_aux_lemma => kernel_rfl) (fun cls => match cls with | 0 => ⟨ea0, ea1, ea2, ea3, eb0, eb1, eb2, eb3⟩ | 1 => trivial | _ + 2 => trivial) (fun hHeld => ?_)
  refine AnyR.tk (i := 0) 0 (v := ?_) rfl (by as_aux_lemma => kernel_rfl) (fun _ _ _ h => h) hHeld (by rfl) ?_ ?_
  rotate_left
  focus (intro w hSw0; have hSw : (fun w' : World => w'.cell? ⟨ra, 0, none⟩ = some (.pointer (some ⟨pa, 0, none⟩)) ∧ w'.cell? ⟨ra, 1, none⟩ = some (.int .i64 (ao : Nat)) ∧ w'.cell? ⟨ra, 2, none⟩ = some (.int .i64 (ab : Nat)) ∧ w'.cell? ⟨ra, 3, none⟩ = some (.int .i64 (af : Nat)) ∧ w'.cell? ⟨rb, 0, none⟩ = some (.pointer (some ⟨pb, 0, none⟩)) ∧ w'.cell? ⟨rb, 1, none⟩ = some (.int .i64 (bo : Nat)) ∧ w'.cell? ⟨rb, 2, none⟩ = some (.int .i64 (bbi : Nat)) ∧ w'.cell? ⟨rb, 3, none⟩ = some (.int .i64 (bf : Nat))) w := hSw0; clear hSw0; (try dsimp only at hSw); go_simp <;> with_reducible rfl)
  clear hHeld
  intro hHeld
  try simp only [Act.put, zl1, zl2, zl3, zl4, zl5, zl6]
  refine AnyR.tk (i := 1) 0 (v := ?_) rfl (by as_aux_lemma => kernel_rfl) (fun _ _ _ h => h) hHeld (by rfl) ?_ ?_
  rotate_left
  focus (intro w hSw0; have hSw : (fun w' : World => w'.cell? ⟨ra, 0, none⟩ = some (.pointer (some ⟨pa, 0, none⟩)) ∧ w'.cell? ⟨ra, 1, none⟩ = some (.int .i64 (ao : Nat)) ∧ w'.cell? ⟨ra, 2, none⟩ = some (.int .i64 (ab : Nat)) ∧ w'.cell? ⟨ra, 3, none⟩ = some (.int .i64 (af : Nat)) ∧ w'.cell? ⟨rb, 0, none⟩ = some (.pointer (some ⟨pb, 0, none⟩)) ∧ w'.cell? ⟨rb, 1, none⟩ = some (.int .i64 (bo : Nat)) ∧ w'.cell? ⟨rb, 2, none⟩ = some (.int .i64 (bbi : Nat)) ∧ w'.cell? ⟨rb, 3, none⟩ = some (.int .i64 (bf : Nat))) w := hSw0; clear hSw0; (try dsimp only at hSw); go_simp <;> with_reducible rfl)
  clear hHeld
  intro hHeld
  try simp only [Act.put, zl1, zl2, zl3, zl4, zl5, zl6]
  refine AnyR.one (i := 2) (by as_aux_lemma => kernel_rfl) rfl (fun K hK => ?_)
  go_simp
  refine hK.out _ _ (fun cls => match cls with | 0 => .inr (by simp only [World.cell?_drew, f6a, f6b, f7a, f7b, ea0, ea1, ea2, ea3, eb0, eb1, eb2, eb3, and_self]) | 1 => .inr trivial | _ + 2 => .inr trivial) (fun hHeld => ?_)
  clear hK K
  try simp only [Act.put, zl1, zl2, zl3, zl4, zl5, zl6]
  refine AnyR.one (i := 3) (by as_aux_lemma => kernel_rfl) rfl (fun K hK => ?_)
  go_simp
  refine hK.out _ _ (fun cls => match cls with | 0 => .inr (by simp only [World.cell?_drew, f6a, f6b, f7a, f7b, ea0, ea1, ea2, ea3, eb0, eb1, eb2, eb3, and_self]) | 1 => .inr trivial | _ + 2 => .inr trivial) (fun hHeld => ?_)
  clear hK K
  try simp only [Act.put, zl1, zl2, zl3, zl4, zl5, zl6]
  refine AnyR.tk (i := 4) 1 (v := ?_) rfl (by as_aux_lemma => kernel_rfl) (fun _ _ _ h => h) hHeld (by rfl) ?_ ?_
  rotate_left
  focus (intro w h; clear h; go_simp <;> with_reducible rfl)
  clear hHeld
  intro hHeld
  try simp only [Act.put, zl1, zl2, zl3, zl4, zl5, zl6]
  refine AnyR.end_ (by as_aux_lemma => kernel_rfl) ?_
  exact ⟨Lib.hid (ST.out.fend HD.out), rfl⟩
 case h2 =>
  intro w4 FE
  clear ea0 ea1 ea2 ea3 eb0 eb1 eb2 eb3 k60 k61 k62 k63 k70 k71 k72 k73 k6l k7l z60 z61 z62 z63 z70 z71 z72 z73 xal xbl d67 d76 f6a f6b f7a f7b
  obtain ⟨y0, y1, y2, y3⟩ := FE.out.b6.four
  obtain ⟨x0, x1, x2, x3⟩ := FE.out.b7.four
  have yl := FE.out.b6.lt
  have xl := FE.out.b7.lt
  go_wp2_with fail
  refine bodyPost_ret (v := .tuple #[fldV pa ao ab af, fldV pb bo bbi bf, .int .i64 1]) ?_ rfl ⟨pa, pb, by rw [HRES.out]; rfl, by rw [HRES.out]; exact ST.out.ta, by rw [HRES.out]; exact ST.out.tb, by rw [HRES.out]; exact ST.out.oka, by rw [HRES.out]; exact ST.out.okb, FE.out.old⟩
  rw [results_cct rfl]
  unfold fldV
  go_simp
theorem fld_13 {W wr : World} {g L cap z6 z7 ra rb plen pa pb k i gk : Nat} {rest : List Nat} {oa ob : Bool} {R : FS × Out} {J : Nat → Act → World → Prop} {K K6 : Act → World → Prop}
  {un : Bool} {nm : ByteArray} {sz n : Nat} {pn : Nat → ByteArray} {py : Nat → Ty} {xa xb : Nat → Nat} {tb : Ty} {ao ab af bo bbi bf : Nat} (hin : n ≤ i)
  (X : FCtx W g L cap z6 z7 ra rb plen) (hqk : (i :: rest).length + k = plen) (hqg : (i :: rest).length ≤ gk) (HACC : Hid (Acc W g L (i :: rest) (k + 1))) (ST : Hid (FSt W z6 z7 ra rb pa pb (60000000 + k * 100000) ⟨.comp un nm sz n pn py xa xb, ao, ab, af, tb, bo, bbi, bf⟩ wr)) (HRR : Hid (R = fieldGo (i :: rest) ⟨.comp un nm sz n pn py xa xb, ao, ab, af, tb, bo, bbi, bf⟩))
  (hJ : ∀ k' a' w', FInv W g L cap z6 z7 ra rb plen R c0 c2 c3 c4 c5 c20 c21 c22 c23 c24 c25 c26 c27 c28 c29 c30 c31 c32 c33 c34 c35 c36 c37 c38 c39 c40 c41 c42 c43 c44 c284 c285 k' a' w' → J k' a' w') (hK : ∀ a' w', Handed J gk a' w' → K a' w') :
  Code.wp Tryz.prog fldBody (Exit.then K (Exit.inBlock 0 (Exit.then K6 (bodyPost Tryz.prog Tryz.f11 (FRes W R))))) ⟨#[c0, .slice (some ⟨g, 0, none⟩) L cap, c2, c3, c4, c5, .pointer (some ⟨z6, 0, none⟩), .pointer (some ⟨z7, 0, none⟩), u8, .pointer (some ⟨ra, 0, none⟩), .pointer (some ⟨rb, 0, none⟩), .bool oa, .bool ob, u13, u14, u15, u16, u17, u18, u19, c20, c21, c22, c23, c24, c25, c26, c27, c28, c29, c30, c31, c32, c33, c34, c35, c36, c37, c38, c39, c40, c41, c42, c43, c44, .slice (some ⟨g, 1, none⟩) (L - 1) (cap - 1), .int .i64 ((L - 1 : Nat) : Int), .int .i64 (k : Int), u48, u49, u50, u51, u52, u53, u54, u55, u56, u57, u58, u59, u60, u61, u62, u63, u64, u65, u66, u67, u68, u69, u70, u71, u72, u73, u74, u75, u76, u77, u78, u79, u80, u81, u82, u83, u84, u85, u86, u87, u88, u89, u90, u91, u92, u93, u94, u95, u96, u97, u98, u99, u100, u101, u102, u103, u104, u105, u106, u107, u108, u109, u110, u111, u112, u113, u114, u115, u116, u117, u118, u119, u120, u121, u122, u123, u124, u125, u126, u127, u128, u129, u130, u131, u132, u133, u134, u135, u136, u137, u138, u139, u140, u141, u142, u143, u144, u145, u146, u147, u148, u149, u150, u151, u152, u153, u154, u155, u156, u157, u158, u159, u160, u161, u162, u163, u164, u165, u166, u167, u168, u169, u170, u171, u172, u173, u174, u175, u176, u177, u178, u179, u180, u181, u182, u183, u184, u185, u186, u187, u188, u189, u190, u191, u192, u193, u194, u195, u196, u197, u198, u199, u200, u201, u202, u203, u204, u205, u206, u207, u208, u209, u210, u211, u212, u213, u214, u215, u216, u217, u218, u219, u220, u221, u222, u223, u224, u225, u226, u227, u228, u229, u230, u231, u232, u233, u234, u235, u236, u237, u238, u239, u240, u241, u242, u243, u244, u245, u246, u247, u248, u249, u250, u251, u252, u253, u254, u255, u256, u257, u258, u259, u260, u261, u262, u263, u264, u265, u266, u267, u268, u269, u270, u271, u272, u273, u274, u275, u276, u277, u278, u279, u280, u281, u282, u283, c284, c285], []⟩ wr := by
 obtain ⟨hL, hg, hcap, hlen, hL2, DD⟩ := X
 have HD := Lib.hid DD
 obtain ⟨F6a, F6b, F7a, F7b⟩ := DD.far
 have hab := DD.dab
 have hab' := DD.dab.symm
 clear DD
 have hLp : (1 : Int) ≤ L := by omega
 have hcapp : (L : Int) ≤ cap := by omega
 have hc2 : (2 : Int) ≤ cap := by omega
 simp only [List.length_cons] at hqk hqg
 have hkL : (k : Int) < L - 1 := by omega
 have hkL' : ¬ ((L : Int) - 1 ≤ k) := by omega
 obtain ⟨hi0, hi1⟩ := HACC.out.2 0 i rfl
 have HACC1 := Lib.hid HACC.out.tail
 have hi2 := (ST.out.old.cell (p := ⟨g, k + 1 + 0, none⟩) hg).trans hi0
 rw [Nat.add_zero, Nat.add_comm] at hi2
 have gl := Nat.lt_of_lt_of_le hg ST.out.old.size
 clear hi0 HACC
 have H_hin := Lib.hid hin
 clear hin
 have RA : Hid (Rep wr Nowhere pa (.comp un nm sz n pn py xa xb)) := Lib.hid (ST.out.ta.old ST.out.old)
 have TA : Hid (Rep W Nowhere pa (.comp un nm sz n pn py xa xb)) := Lib.hid ST.out.ta
 have TB : Hid (Rep W Nowhere pb tb) := Lib.hid ST.out.tb
 have hcm := composite_any RA.out
 have pal := RA.out.lt
 rw [isC_comp] at hcm
 obtain ⟨pv, pxs, pc, hblk, hown, hrow, hrep⟩ := TA.out.comp_inv
 obtain ⟨sa, scap, rfl⟩ := own_slice hown
 obtain ⟨_, _, _, _, _, c5W⟩ := hblk.six
 have HC5 := Lib.hid (fun (W' : World) (hW : Below W.heap.size W W') => (hW.cell (p := ⟨pa, 5, none⟩) hblk.lt).trans c5W)
 have c5 := HC5.out _ ST.out.old
 clear c5W
 obtain ⟨hsz, hn20, hpp, hyy, haa⟩ := ST.out.oka.parts
 have HO := Lib.hid hown
 have HRW := Lib.hid hrow
 have HRP := Lib.hid hrep
 have HPP := Lib.hid hpp
 have HYY := Lib.hid hyy
 have HAA := Lib.hid haa
 clear hblk hown hrow hrep hpp hyy haa hsz
 obtain ⟨ea0, ea1, ea2, ea3⟩ := ST.out.ba.four
 have xal := ST.out.ba.lt
 conv => arg 2; whnf
 go_wp2_with fail
 refine hcm.mono ?_
 rintro e wB ⟨rfl, rfl⟩
 clear hcm
 have hin := H_hin.out
 have hinI : (n : Int) ≤ i := by omega
 have HRES : Hid (R = (⟨.comp un nm sz n pn py xa xb, ao, ab, af, tb, bo, bbi, bf⟩, .wrong)) := Lib.hid (HRR.out.trans (fieldGo_stop (by unfold stepF; simp only [if_pos hin])))
 clear hin
 obtain ⟨ea0, ea1, ea2, ea3⟩ := ST.out.ba.four
 obtain ⟨eb0, eb1, eb2, eb3⟩ := ST.out.bb.four
 have k60 := ST.out.b6.free 0
 have k61 := ST.out.b6.free 1
 have k62 := ST.out.b6.free 2
 have k63 := ST.out.b6.free 3
 have k70 := ST.out.b7.free 0
 have k71 := ST.out.b7.free 1
 have k72 := ST.out.b7.free 2
 have k73 := ST.out.b7.free 3
 have k6l := ST.out.b6.lt
 have k7l := ST.out.b7.lt
 obtain ⟨z60, z61, z62, z63⟩ := ST.out.b6.four
 obtain ⟨z70, z71, z72, z73⟩ := ST.out.b7.four
 have xal := ST.out.ba.lt
 have xbl := ST.out.bb.lt
 have d67 := HD.out.d67
 have d76 := HD.out.d67.symm
 have f6a := F6a.out
 have f6b := F6b.out
 have f7a := F7a.out
 have f7b := F7b.out
 go_upto_region 13 with fail
 apply wp_meet0 (fun w' => Hid (FEnd W z6 z7 pa ao ab af pb bo bbi bf w'))
 case h1 =>
  refine AnyR.start (wr := [3, 2]) (rd := (fun cls => match cls with | 0 => [0, 1] | 1 => [4] | _ + 2 => [])) (Sf := (fun cls w' => match cls with | 0 => w'.cell? ⟨ra, 0, none⟩ = some (.pointer (some ⟨pa, 0, none⟩)) ∧ w'.cell? ⟨ra, 1, none⟩ = some (.int .i64 (ao : Nat)) ∧ w'.cell? ⟨ra, 2, none⟩ = some (.int .i64 (ab : Nat)) ∧ w'.cell? ⟨ra, 3, none⟩ = some (.int .i64 (af : Nat)) ∧ w'.cell? ⟨rb, 0, none⟩ = some (.pointer (some ⟨pb, 0, none⟩)) ∧ w'.cell? ⟨rb, 1, none⟩ = some (.int .i64 (bo : Nat)) ∧ w'.cell? ⟨rb, 2, none⟩ = some (.int .i64 (bbi : Nat)) ∧ w'.cell? ⟨rb, 3, none⟩ = some (.int .i64 (bf : Nat)) | 1 => True | _ + 2 => True)) (by as_aux_lemma => kernel_rfl) (fun cls => match cls with | 0 => ⟨ea0, ea1, ea2, ea3, eb0, eb1, eb2, eb3⟩ | 1 => trivial | _ + 2 => trivial) (fun hHeld => ?_)
  refine AnyR.tk (i := 0) 0 (v := ?_) rfl (by as_aux_lemma => kernel_rfl) (fun _ _ _ h => h) hHeld (by rfl) ?_ ?_
  rotate_left
  focus (intro w hSw0; have hSw : (fun w' : World => w'.cell? ⟨ra, 0, none⟩ = some (.pointer (some ⟨pa, 0, none⟩)) ∧ w'.cell? ⟨ra, 1, none⟩ = some (.int .i64 (ao : Nat)) ∧ w'.cell? ⟨ra, 2, none⟩ = some (.int .i64 (ab : Nat)) ∧ w'.cell? ⟨ra, 3, none⟩ = some (.int .i64 (af : Nat)) ∧ w'.cell? ⟨rb, 0, none⟩ = some (.pointer (some ⟨pb, 0, none⟩)) ∧ w'.cell? ⟨rb, 1, none⟩ = some (.int .i64 (bo : Nat)) ∧ w'.cell? ⟨rb, 2, none⟩ = some (.int .i64 (bbi : Nat)) ∧ w'.cell? ⟨rb, 3, none⟩ = some (.int .i64 (bf : Nat))) w := hSw0; clear hSw0; (try dsimp only at hSw); go_simp <;> with_reducible rfl)
  clear hHeld
  intro hHeld
  try simp only [Act.put, zl1, zl2, zl3, zl4, zl5, zl6]
  refine AnyR.tk (i := 1) 0 (v := ?_) rfl (by as_aux_lemma => kernel_rfl) (fun _ _ _ h => h) hHeld (by rfl) ?_ ?_
  rotate_left
  focus (intro w hSw0; have hSw : (fun w' : World => w'.cell? ⟨ra, 0, none⟩ = some (.pointer (some ⟨pa, 0, none⟩)) ∧ w'.cell? ⟨ra, 1, none⟩ = some (.int .i64 (ao : Nat)) ∧ w'.cell? ⟨ra, 2, none⟩ = some (.int .i64 (ab : Nat)) ∧ w'.cell? ⟨ra, 3, none⟩ = some (.int .i64 (af : Nat)) ∧ w'.cell? ⟨rb, 0, none⟩ = some (.pointer (some ⟨pb, 0, none⟩)) ∧ w'.cell? ⟨rb, 1, none⟩ = some (.int .i64 (bo : Nat)) ∧ w'.cell? ⟨rb, 2, none⟩ = some (.int .i64 (bbi : Nat)) ∧ w'.cell? ⟨rb, 3, none⟩ = some (.int .i64 (bf : Nat))) w := hSw0; clear hSw0; (try dsimp only at hSw); go_simp <;> with_reducible rfl)
  clear hHeld
  intro hHeld
  try simp only [Act.put, zl1, zl2, zl3, zl4, zl5, zl6]
  refine AnyR.one (i := 2) (by as_aux_lemma => kernel_rfl) rfl (fun K hK => ?_)
  go_simp
  refine hK.out _ _ (fun cls => match cls with | 0 => .inr (by simp only [World.cell?_drew, f6a, f6b, f7a, f7b, ea0, ea1, ea2, ea3, eb0, eb1, eb2, eb3, and_self]) | 1 => .inr trivial | _ + 2 => .inr trivial) (fun hHeld => ?_)
  clear hK K
  try simp only [Act.put, zl1, zl2, zl3, zl4, zl5, zl6]
  refine AnyR.one (i := 3) (by as_aux_lemma => kernel_rfl) rfl (fun K hK => ?_)
  go_simp
  refine hK.out _ _ (fun cls => match cls with | 0 => .inr (by simp only [World.cell?_drew, f6a, f6b, f7a, f7b, ea0, ea1, ea2, ea3, eb0, eb1, eb2, eb3, and_self]) | 1 => .inr trivial | _ + 2 => .inr trivial) (fun hHeld => ?_)
  clear hK K
  try simp only [Act.put, zl1, zl2, zl3, zl4, zl5, zl6]
  refine AnyR.tk (i := 4) 1 (v := ?_) rfl (by as_aux_lemma => kernel_rfl) (fun _ _ _ h => h) hHeld (by rfl) ?_ ?_
  rotate_left
  focus (intro w h; clear h; go_simp <;> with_reducible rfl)
  clear hHeld
  intro hHeld
  try simp only [Act.put, zl1, zl2, zl3, zl4, zl5, zl6]
  refine AnyR.end_ (by as_aux_lemma => kernel_rfl) ?_
  exact ⟨Lib.hid (ST.out.fend HD.out), rfl⟩
 case h2 =>
  intro w4 FE
  clear ea0 ea1 ea2 ea3 eb0 eb1 eb2 eb3 k60 k61 k62 k63 k70 k71 k72 k73 k6l k7l z60 z61 z62 z63 z70 z71 z72 z73 xal xbl d67 d76 f6a f6b f7a f7b
  obtain ⟨y0, y1, y2, y3⟩ := FE.out.b6.four
  obtain ⟨x0, x1, x2, x3⟩ := FE.out.b7.four
  have yl := FE.out.b6.lt
  have xl := FE.out.b7.lt
  go_wp2_with fail
  refine bodyPost_ret (v := .tuple #[fldV pa ao ab af, fldV pb bo bbi bf, .int .i64 2]) ?_ rfl ⟨pa, pb, by rw [HRES.out]; rfl, by rw [HRES.out]; exact ST.out.ta, by rw [HRES.out]; exact ST.out.tb, by rw [HRES.out]; exact ST.out.oka, by rw [HRES.out]; exact ST.out.okb, FE.out.old⟩
  rw [results_cct rfl]
  unfold fldV
  go_simp
end
section
variable {c0 c2 c3 c4 c5 c20 c21 c22 c23 c24 c25 c26 c27 c28 c29 c30 c31 c32 c33 c34 c35 c36 c37 c38 c39 c40 c41 c42 c43 c44 c284 c285 u8 u13 u14 u15 u16 u17 u18 u19 u48 u49 u50 u51 u52 u53 u54 u55 u56 u57 u58 u59 u60 u61 u62 u63 u64 u65 u66 u67 u68 u69 u70 u71 u72 u73 u74 u75 u76 u77 u78 u79 u80 u81 u82 u83 u84 u85 u86 u87 u88 u89 u90 u91 u92 u93 u94 u95 u96 u97 u98 u99 u100 u101 u102 u103 u104 u105 u106 u107 u108 u109 u110 u111 u112 u113 u114 u115 u116 u117 u118 u119 u120 u121 u122 u123 u124 u125 u126 u127 u128 u129 u130 u131 u132 u133 u134 u135 u136 u137 u138 u139 u140 u141 u142 u143 u144 u145 u146 u147 u148 u149 u150 u151 u152 u153 u154 u155 u156 u157 u158 u159 u160 u161 u162 u163 u164 u165 u166 u167 u168 u169 u170 u171 u172 u173 u174 u175 u176 u177 u178 u179 u180 u181 u182 u183 u184 u185 u186 u187 u188 u189 u190 u191 u192 u193 u194 u195 u196 u197 u198 u199 u200 u201 u202 u203 u204 u205 u206 u207 u208 u209 u210 u211 u212 u213 u214 u215 u216 u217 u218 u219 u220 u221 u222 u223 u224 u225 u226 u227 u228 u229 u230 u231 u232 u233 u234 u235 u236 u237 u238 u239 u240 u241 u242 u243 u244 u245 u246 u247 u248 u249 u250 u251 u252 u253 u254 u255 u256 u257 u258 u259 u260 u261 u262 u263 u264 u265 u266 u267 u268 u269 u270 u271 u272 u273 u274 u275 u276 u277 u278 u279 u280 u281 u282 u283 : Value}
theorem fld_arr38 {W wr : World} {g L cap z6 z7 ra rb plen pa pb k i gk : Nat} {rest : List Nat} {oa ob : Bool} {R : FS × Out} {J : Nat → Act → World → Prop} {K K6 : Act → World → Prop}
  {m m2 : Nat} {u1 u2 : Ty} {ao ab af bo bbi bf : Nat} (hmi : ¬ m ≤ i) (hmm : ¬ m2 ≤ i)
  (X : FCtx W g L cap z6 z7 ra rb plen) (hqk : (i :: rest).length + k = plen) (hqg : (i :: rest).length ≤ gk) (HACC : Hid (Acc W g L (i :: rest) (k + 1))) (ST : Hid (FSt W z6 z7 ra rb pa pb (60000000 + k * 100000) ⟨.arr m u1, ao, ab, af, .arr m2 u2, bo, bbi, bf⟩ wr)) (HRR : Hid (R = fieldGo (i :: rest) ⟨.arr m u1, ao, ab, af, .arr m2 u2, bo, bbi, bf⟩))
  (hJ : ∀ k' a' w', FInv W g L cap z6 z7 ra rb plen R c0 c2 c3 c4 c5 c20 c21 c22 c23 c24 c25 c26 c27 c28 c29 c30 c31 c32 c33 c34 c35 c36 c37 c38 c39 c40 c41 c42 c43 c44 c284 c285 k' a' w' → J k' a' w') (hK : ∀ a' w', Handed J gk a' w' → K a' w') :
  Code.wp Tryz.prog fldBody (Exit.then K (Exit.inBlock 0 (Exit.then K6 (bodyPost Tryz.prog Tryz.f11 (FRes W R))))) ⟨#[c0, .slice (some ⟨g, 0, none⟩) L cap, c2, c3, c4, c5, .pointer (some ⟨z6, 0, none⟩), .pointer (some ⟨z7, 0, none⟩), u8, .pointer (some ⟨ra, 0, none⟩), .pointer (some ⟨rb, 0, none⟩), .bool oa, .bool ob, u13, u14, u15, u16, u17, u18, u19, c20, c21, c22, c23, c24, c25, c26, c27, c28, c29, c30, c31, c32, c33, c34, c35, c36, c37, c38, c39, c40, c41, c42, c43, c44, .slice (some ⟨g, 1, none⟩) (L - 1) (cap - 1), .int .i64 ((L - 1 : Nat) : Int), .int .i64 (k : Int), u48, u49, u50, u51, u52, u53, u54, u55, u56, u57, u58, u59, u60, u61, u62, u63, u64, u65, u66, u67, u68, u69, u70, u71, u72, u73, u74, u75, u76, u77, u78, u79, u80, u81, u82, u83, u84, u85, u86, u87, u88, u89, u90, u91, u92, u93, u94, u95, u96, u97, u98, u99, u100, u101, u102, u103, u104, u105, u106, u107, u108, u109, u110, u111, u112, u113, u114, u115, u116, u117, u118, u119, u120, u121, u122, u123, u124, u125, u126, u127, u128, u129, u130, u131, u132, u133, u134, u135, u136, u137, u138, u139, u140, u141, u142, u143, u144, u145, u146, u147, u148, u149, u150, u151, u152, u153, u154, u155, u156, u157, u158, u159, u160, u161, u162, u163, u164, u165, u166, u167, u168, u169, u170, u171, u172, u173, u174, u175, u176, u177, u178, u179, u180, u181, u182, u183, u184, u185, u186, u187, u188, u189, u190, u191, u192, u193, u194, u195, u196, u197, u198, u199, u200, u201, u202, u203, u204, u205, u206, u207, u208, u209, u210, u211, u212, u213, u214, u215, u216, u217, u218, u219, u220, u221, u222, u223, u224, u225, u226, u227, u228, u229, u230, u231, u232, u233, u234, u235, u236, u237, u238, u239, u240, u241, u242, u243, u244, u245, u246, u247, u248, u249, u250, u251, u252, u253, u254, u255, u256, u257, u258, u259, u260, u261, u262, u263, u264, u265, u266, u267, u268, u269, u270, u271, u272, u273, u274, u275, u276, u277, u278, u279, u280, u281, u282, u283, c284, c285], []⟩ wr := by
 obtain ⟨hL, hg, hcap, hlen, hL2, DD⟩ := X
 have HD := Lib.hid DD
 obtain ⟨F6a, F6b, F7a, F7b⟩ := DD.far
 have hab := DD.dab
 have hab' := DD.dab.symm
 clear DD
 have hLp : (1 : Int) ≤ L := by omega
 have hcapp : (L : Int) ≤ cap := by omega
 have hc2 : (2 : Int) ≤ cap := by omega
 simp only [List.length_cons] at hqk hqg
 have hkL : (k : Int) < L - 1 := by omega
 have hkL' : ¬ ((L : Int) - 1 ≤ k) := by omega
 obtain ⟨hi0, hi1⟩ := HACC.out.2 0 i rfl
 have HACC1 := Lib.hid HACC.out.tail
 have hi2 := (ST.out.old.cell (p := ⟨g, k + 1 + 0, none⟩) hg).trans hi0
 rw [Nat.add_zero, Nat.add_comm] at hi2
 have gl := Nat.lt_of_lt_of_le hg ST.out.old.size
 clear hi0 HACC
 have RA : Hid (Rep wr Nowhere pa (.arr m u1)) := Lib.hid (ST.out.ta.old ST.out.old)
 have TA : Hid (Rep W Nowhere pa (.arr m u1)) := Lib.hid ST.out.ta
 have TB : Hid (Rep W Nowhere pb (.arr m2 u2)) := Lib.hid ST.out.tb
 have hcm := composite_any RA.out
 have pal := RA.out.lt
 obtain ⟨c1, pa0, pa2, pa4, RC1⟩ := TA.out.elem
 rw [show isC (.arr m u1) = false from rfl] at hcm
 have RC1 := Lib.hid RC1
 obtain ⟨hu, hm1, hm6⟩ := ST.out.oka.arr
 have HU := Lib.hid hu
 have pa0 := (ST.out.old.cell (p := ⟨pa, 0, none⟩) TA.out.lt).trans pa0
 have pa2 := (ST.out.old.cell (p := ⟨pa, 2, none⟩) TA.out.lt).trans pa2
 have pa4 := (ST.out.old.cell (p := ⟨pa, 4, none⟩) TA.out.lt).trans pa4
 have pbl := (ST.out.tb.old ST.out.old).lt
 clear hu
 obtain ⟨ea0, ea1, ea2, ea3⟩ := ST.out.ba.four
 obtain ⟨eb0, eb1, eb2, eb3⟩ := ST.out.bb.four
 have xal := ST.out.ba.lt
 have xbl := ST.out.bb.lt
 have hm0 : ¬ (m : Int) = 0 := by omega
 have hm0' : (0 : Int) < m := by omega
 obtain ⟨c2, pb0, pb2, pb4, RC2⟩ := TB.out.elem
 have RC2 := Lib.hid RC2
 have pb0 := (ST.out.old.cell (p := ⟨pb, 0, none⟩) TB.out.lt).trans pb0
 have pb2 := (ST.out.old.cell (p := ⟨pb, 2, none⟩) TB.out.lt).trans pb2
 have pb4 := (ST.out.old.cell (p := ⟨pb, 4, none⟩) TB.out.lt).trans pb4
 obtain ⟨hu2, hn1, hn6⟩ := ST.out.okb.arr
 have HU2 := Lib.hid hu2
 clear hu2
 have hn0 : ¬ (m2 : Int) = 0 := by omega
 have hn0' : (0 : Int) < m2 := by omega
 have hmiI : ¬ (m : Int) ≤ i := by omega
 have hmmI : ¬ (m2 : Int) ≤ i := by omega
 conv => arg 2; whnf
 go_wp2_with fail
 refine hcm.mono ?_
 rintro e w5 ⟨rfl, rfl⟩
 have hmi' : ¬ m ≤ i := hmi
 have hmm' : ¬ m2 ≤ i := hmm
 obtain ⟨bq1, bs1, bb1⟩ := arr_bnd HU.out hi1 ST.out.bnd.1 (by omega)
 obtain ⟨bq2, bs2, bb2⟩ := arr_bnd HU2.out hi1 ST.out.bnd.2 (by omega)
 have hst : stepF ⟨.arr m u1, ao, ab, af, .arr m2 u2, bo, bbi, bf⟩ i rest.isEmpty = (⟨u1, ao + i * u1.bytes, 0, 0, u2, bo + i * u2.bytes, 0, 0⟩, if cmpF u1 u2 = true then none else some .poison) := by
  unfold stepF
  simp only [if_neg hmi', if_neg hmm']
 have HGO : Hid (R = if cmpF u1 u2 = true then fieldGo rest ⟨u1, ao + i * u1.bytes, 0, 0, u2, bo + i * u2.bytes, 0, 0⟩ else (⟨u1, ao + i * u1.bytes, 0, 0, u2, bo + i * u2.bytes, 0, 0⟩, .poison)) := Lib.hid (HRR.out.trans (by
  by_cases hc : cmpF u1 u2 = true
  ·rw [if_pos hc] at hst ⊢; exact fieldGo_on hst
  ·rw [if_neg hc] at hst ⊢; exact fieldGo_stop hst))
 clear hst hmi hmm hmi' hmm'
 have HB1 := Lib.hid (fun (W' : World) (hW : Below W.heap.size W W') => bytes_flat Nowhere c1 u1 W' (RC1.out.old hW) HU.out.flat.2.2)
 have HB2 := Lib.hid (fun (W' : World) (hW : Below W.heap.size W W') => bytes_flat Nowhere c2 u2 W' (RC2.out.old hW) HU2.out.flat.2.2)
 have hpbra : pb ≠ ra := by have h1 := TB.out.lt; have h2 := HD.out.la; omega
 have FRA : Hid (∀ (w : World) (i : Nat) (v : Value) (a : Addr) (_ : a.block ≠ ra), (w.setCell ⟨ra, i, none⟩ v).cell? a = w.cell? a) := Lib.hid (fun w i v a h => World.cell?_setCell_far _ ⟨ra, i, none⟩ a _ (fun e => h e.symm))
 have fa0 := ST.out.ba.free 0
 have fb0 := ST.out.bb.free 0
 have fa1 := ST.out.ba.free 1
 have fb1 := ST.out.bb.free 1
 have fa2 := ST.out.ba.free 2
 have fb2 := ST.out.bb.free 2
 have fa3 := ST.out.ba.free 3
 have fb3 := ST.out.bb.free 3
 go_upto_region 38 with fail
 apply wp_meet0 (fun w' => Hid (FSt W z6 z7 ra rb c1 c2 (60000000 + (k + 1) * 100000) ⟨u1, ao + i * u1.bytes, 0, 0, u2, bo + i * u2.bytes, 0, 0⟩ w'))
 case h1 =>
  refine AnyR.start (wr := [33, 32]) (rd := (fun cls => match cls with | 0 => [3, 5, 10] | 1 => [16, 19, 21, 24, 27] | 2 => [0, 1, 2, 4, 6, 7, 8, 9, 12, 13, 14, 15, 17, 18, 20, 22, 23, 25, 26, 29, 30, 31] | _ + 3 => [])) (Sf := (fun cls w' => match cls with | 0 => w'.cell? ⟨pa, 4, none⟩ = some (.pointer (some ⟨c1, 0, none⟩)) ∧ w'.cell? ⟨ra, 1, none⟩ = some (.int .i64 (ao : Nat)) | 1 => w'.cell? ⟨rb, 0, none⟩ = some (.pointer (some ⟨pb, 0, none⟩)) ∧ w'.cell? ⟨pb, 4, none⟩ = some (.pointer (some ⟨c2, 0, none⟩)) ∧ w'.cell? ⟨rb, 1, none⟩ = some (.int .i64 (bo : Nat)) | 2 => True | _ + 3 => True)) (by as_aux_lemma => kernel_rfl) (fun cls => match cls with | 0 => ⟨pa4, ea1⟩ | 1 => ⟨eb0, pb4, eb1⟩ | 2 => trivial | _ + 3 => trivial) (fun hHeld => ?_)
  refine AnyR.tk (i := 0) 2 (v := ?_) rfl (by as_aux_lemma => kernel_rfl) (fun _ _ _ h => h) hHeld (by rfl) ?_ ?_
  rotate_left
  focus (intro w h; clear h; go_simp <;> with_reducible rfl)
  clear hHeld
  intro hHeld
  try simp only [Act.put, zl1, zl2, zl3, zl4, zl5, zl6]
  refine AnyR.tk (i := 4) 2 (v := ?_) rfl (by as_aux_lemma => kernel_rfl) (fun _ _ _ h => h) hHeld (by rfl) ?_ ?_
  rotate_left
  focus (intro w h; clear h; go_simp <;> with_reducible rfl)
  clear hHeld
  intro hHeld
  try simp only [Act.put, zl1, zl2, zl3, zl4, zl5, zl6]
  refine AnyR.tk (i := 6) 2 (v := ?_) rfl (by as_aux_lemma => kernel_rfl) (fun _ _ _ h => h) hHeld (by rfl) ?_ ?_
  rotate_left
  focus (intro w h; clear h; go_simp <;> with_reducible rfl)
  clear hHeld
  intro hHeld
  try simp only [Act.put, zl1, zl2, zl3, zl4, zl5, zl6]
  refine AnyR.tk (i := 7) 2 (v := ?_) rfl (by as_aux_lemma => kernel_rfl) (fun _ _ _ h => h) hHeld (by rfl) ?_ ?_
  rotate_left
  focus (intro w h; clear h; go_simp <;> with_reducible rfl)
  clear hHeld
  intro hHeld
  try simp only [Act.put, zl1, zl2, zl3, zl4, zl5, zl6]
  refine AnyR.tk (i := 15) 2 (v := ?_) rfl (by as_aux_lemma => kernel_rfl) (fun _ _ _ h => h) hHeld (by rfl) ?_ ?_
  rotate_left
  focus (intro w h; clear h; go_simp <;> with_reducible rfl)
  clear hHeld
  intro hHeld
  try simp only [Act.put, zl1, zl2, zl3, zl4, zl5, zl6]
  refine AnyR.tk (i := 20) 2 (v := ?_) rfl (by as_aux_lemma => kernel_rfl) (fun _ _ _ h => h) hHeld (by rfl) ?_ ?_
  rotate_left
  focus (intro w h; clear h; go_simp <;> with_reducible rfl)
  clear hHeld
  intro hHeld
  try simp only [Act.put, zl1, zl2, zl3, zl4, zl5, zl6]
  refine AnyR.tk (i := 22) 2 (v := ?_) rfl (by as_aux_lemma => kernel_rfl) (fun _ _ _ h => h) hHeld (by rfl) ?_ ?_
  rotate_left
  focus (intro w h; clear h; go_simp <;> with_reducible rfl)
  clear hHeld
  intro hHeld
  try simp only [Act.put, zl1, zl2, zl3, zl4, zl5, zl6]
  refine AnyR.tk (i := 23) 2 (v := ?_) rfl (by as_aux_lemma => kernel_rfl) (fun _ _ _ h => h) hHeld (by rfl) ?_ ?_
  rotate_left
  focus (intro w h; clear h; go_simp <;> with_reducible rfl)
  clear hHeld
  intro hHeld
  try simp only [Act.put, zl1, zl2, zl3, zl4, zl5, zl6]
  refine AnyR.tk (i := 1) 2 (v := ?_) rfl (by as_aux_lemma => kernel_rfl) (fun _ _ _ h => h) hHeld (by rfl) ?_ ?_
  rotate_left
  focus (intro w h; clear h; go_simp <;> with_reducible rfl)
  clear hHeld
  intro hHeld
  try simp only [Act.put, zl1, zl2, zl3, zl4, zl5, zl6]
  refine AnyR.tk (i := 5) 0 (v := ?_) rfl (by as_aux_lemma => kernel_rfl) (fun _ _ _ h => h) hHeld (by rfl) ?_ ?_
  rotate_left
  focus (intro w hSw0; have hSw : (fun w' : World => w'.cell? ⟨pa, 4, none⟩ = some (.pointer (some ⟨c1, 0, none⟩)) ∧ w'.cell? ⟨ra, 1, none⟩ = some (.int .i64 (ao : Nat))) w := hSw0; clear hSw0; (try dsimp only at hSw); go_simp <;> with_reducible rfl)
  clear hHeld
  intro hHeld
  try simp only [Act.put, zl1, zl2, zl3, zl4, zl5, zl6]
  refine AnyR.tk (i := 8) 2 (v := ?_) rfl (by as_aux_lemma => kernel_rfl) (fun _ _ _ h => h) hHeld (by rfl) ?_ ?_
  rotate_left
  focus (intro w h; clear h; go_simp <;> with_reducible rfl)
  clear hHeld
  intro hHeld
  try simp only [Act.put, zl1, zl2, zl3, zl4, zl5, zl6]
  refine AnyR.tk (i := 16) 1 (v := ?_) rfl (by as_aux_lemma => kernel_rfl) (fun _ _ _ h => h) hHeld (by rfl) ?_ ?_
  rotate_left
  focus (intro w hSw0; have hSw : (fun w' : World => w'.cell? ⟨rb, 0, none⟩ = some (.pointer (some ⟨pb, 0, none⟩)) ∧ w'.cell? ⟨pb, 4, none⟩ = some (.pointer (some ⟨c2, 0, none⟩)) ∧ w'.cell? ⟨rb, 1, none⟩ = some (.int .i64 (bo : Nat))) w := hSw0; clear hSw0; (try dsimp only at hSw); go_simp <;> with_reducible rfl)
  clear hHeld
  intro hHeld
  try simp only [Act.put, zl1, zl2, zl3, zl4, zl5, zl6]
  refine AnyR.tk (i := 21) 1 (v := ?_) rfl (by as_aux_lemma => kernel_rfl) (fun _ _ _ h => h) hHeld (by rfl) ?_ ?_
  rotate_left
  focus (intro w hSw0; have hSw : (fun w' : World => w'.cell? ⟨rb, 0, none⟩ = some (.pointer (some ⟨pb, 0, none⟩)) ∧ w'.cell? ⟨pb, 4, none⟩ = some (.pointer (some ⟨c2, 0, none⟩)) ∧ w'.cell? ⟨rb, 1, none⟩ = some (.int .i64 (bo : Nat))) w := hSw0; clear hSw0; (try dsimp only at hSw); go_simp <;> with_reducible rfl)
  clear hHeld
  intro hHeld
  try simp only [Act.put, zl1, zl2, zl3, zl4, zl5, zl6]
  refine AnyR.tk (i := 24) 1 (v := ?_) rfl (by as_aux_lemma => kernel_rfl) (fun _ _ _ h => h) hHeld (by rfl) ?_ ?_
  rotate_left
  focus (intro w hSw0; have hSw : (fun w' : World => w'.cell? ⟨rb, 0, none⟩ = some (.pointer (some ⟨pb, 0, none⟩)) ∧ w'.cell? ⟨pb, 4, none⟩ = some (.pointer (some ⟨c2, 0, none⟩)) ∧ w'.cell? ⟨rb, 1, none⟩ = some (.int .i64 (bo : Nat))) w := hSw0; clear hSw0; (try dsimp only at hSw); go_simp <;> with_reducible rfl)
  clear hHeld
  intro hHeld
  try simp only [Act.put, zl1, zl2, zl3, zl4, zl5, zl6]
  refine AnyR.tk (i := 2) 2 (v := ?_) rfl (by as_aux_lemma => kernel_rfl) (fun _ _ _ h => h) hHeld (by rfl) ?_ ?_
  rotate_left
  focus (intro w h; clear h; go_simp <;> with_reducible rfl)
  clear hHeld
  intro hHeld
  try simp only [Act.put, zl1, zl2, zl3, zl4, zl5, zl6]
  refine AnyR.tk (i := 9) 2 (v := ?_) rfl (by as_aux_lemma => kernel_rfl) (fun _ _ _ h => h) hHeld (by rfl) ?_ ?_
  rotate_left
  focus (intro w h; clear h; go_simp <;> with_reducible rfl)
  clear hHeld
  intro hHeld
  try simp only [Act.put, zl1, zl2, zl3, zl4, zl5, zl6]
  refine AnyR.tk (i := 17) 2 (v := ?_) rfl (by as_aux_lemma => kernel_rfl) (fun _ _ _ h => h) hHeld (by rfl) ?_ ?_
  rotate_left
  focus (intro w h; clear h; go_simp <;> with_reducible rfl)
  clear hHeld
  intro hHeld
  try simp only [Act.put, zl1, zl2, zl3, zl4, zl5, zl6]
  refine AnyR.tk (i := 25) 2 (v := ?_) rfl (by as_aux_lemma => kernel_rfl) (fun _ _ _ h => h) hHeld (by rfl) ?_ ?_
  rotate_left
  focus (intro w h; clear h; go_simp <;> with_reducible rfl)
  clear hHeld
  intro hHeld
  try simp only [Act.put, zl1, zl2, zl3, zl4, zl5, zl6]
  refine AnyR.tk (i := 3) 0 (v := ?_) rfl (by as_aux_lemma => kernel_rfl) (fun _ _ _ h => h) hHeld (by rfl) ?_ ?_
  rotate_left
  focus (intro w hSw0; have hSw : (fun w' : World => w'.cell? ⟨pa, 4, none⟩ = some (.pointer (some ⟨c1, 0, none⟩)) ∧ w'.cell? ⟨ra, 1, none⟩ = some (.int .i64 (ao : Nat))) w := hSw0; clear hSw0; (try dsimp only at hSw); go_simp <;> with_reducible rfl)
  clear hHeld
  intro hHeld
  try simp only [Act.put, zl1, zl2, zl3, zl4, zl5, zl6]
  refine AnyR.tk (i := 10) 0 (v := ?_) rfl (by as_aux_lemma => kernel_rfl) (fun _ _ _ h => h) hHeld (by rfl) ?_ ?_
  rotate_left
  focus (intro w hSw0; have hSw : (fun w' : World => w'.cell? ⟨pa, 4, none⟩ = some (.pointer (some ⟨c1, 0, none⟩)) ∧ w'.cell? ⟨ra, 1, none⟩ = some (.int .i64 (ao : Nat))) w := hSw0; clear hSw0; (try dsimp only at hSw); go_simp <;> with_reducible rfl)
  clear hHeld
  intro hHeld
  try simp only [Act.put, zl1, zl2, zl3, zl4, zl5, zl6]
  refine AnyR.tk (i := 18) 2 (v := ?_) rfl (by as_aux_lemma => kernel_rfl) (fun _ _ _ h => h) hHeld (by rfl) ?_ ?_
  rotate_left
  focus (intro w h; clear h; go_simp <;> with_reducible rfl)
  clear hHeld
  intro hHeld
  try simp only [Act.put, zl1, zl2, zl3, zl4, zl5, zl6]
  refine AnyR.tk (i := 26) 2 (v := ?_) rfl (by as_aux_lemma => kernel_rfl) (fun _ _ _ h => h) hHeld (by rfl) ?_ ?_
  rotate_left
  focus (intro w h; clear h; go_simp <;> with_reducible rfl)
  clear hHeld
  intro hHeld
  try simp only [Act.put, zl1, zl2, zl3, zl4, zl5, zl6]
  refine AnyR.tk (i := 19) 1 (v := ?_) rfl (by as_aux_lemma => kernel_rfl) (fun _ _ _ h => h) hHeld (by rfl) ?_ ?_
  rotate_left
  focus (intro w hSw0; have hSw : (fun w' : World => w'.cell? ⟨rb, 0, none⟩ = some (.pointer (some ⟨pb, 0, none⟩)) ∧ w'.cell? ⟨pb, 4, none⟩ = some (.pointer (some ⟨c2, 0, none⟩)) ∧ w'.cell? ⟨rb, 1, none⟩ = some (.int .i64 (bo : Nat))) w := hSw0; clear hSw0; (try dsimp only at hSw); go_simp <;> with_reducible rfl)
  clear hHeld
  intro hHeld
  try simp only [Act.put, zl1, zl2, zl3, zl4, zl5, zl6]
  refine AnyR.tk (i := 27) 1 (v := ?_) rfl (by as_aux_lemma => kernel_rfl) (fun _ _ _ h => h) hHeld (by rfl) ?_ ?_
  rotate_left
  focus (intro w hSw0; have hSw : (fun w' : World => w'.cell? ⟨rb, 0, none⟩ = some (.pointer (some ⟨pb, 0, none⟩)) ∧ w'.cell? ⟨pb, 4, none⟩ = some (.pointer (some ⟨c2, 0, none⟩)) ∧ w'.cell? ⟨rb, 1, none⟩ = some (.int .i64 (bo : Nat))) w := hSw0; clear hSw0; (try dsimp only at hSw); go_simp <;> with_reducible rfl)
  clear hHeld
  intro hHeld
  try simp only [Act.put, zl1, zl2, zl3, zl4, zl5, zl6]
  refine AnyR.one (i := 11) (by as_aux_lemma => kernel_rfl) rfl (fun K hK => ?_)
  go_simp
  go_at_call 12
  refine (HB1.out _ ST.out.old.drew).mono ?_
  rintro e w8 ⟨rfl, rfl⟩
  refine hK.out _ _ (fun cls => match cls with | 0 => .inr ⟨pa4, ea1⟩ | 1 => .inr ⟨eb0, pb4, eb1⟩ | 2 => .inr trivial | _ + 3 => .inr trivial) (fun hHeld => ?_)
  clear hK K
  try simp only [Act.put, zl1, zl2, zl3, zl4, zl5, zl6]
  refine AnyR.tk (i := 12) 2 (v := ?_) rfl (by as_aux_lemma => kernel_rfl) (fun _ _ _ h => h) hHeld (by rfl) ?_ ?_
  rotate_left
  focus (intro w h; clear h; go_simp <;> with_reducible rfl)
  clear hHeld
  intro hHeld
  try simp only [Act.put, zl1, zl2, zl3, zl4, zl5, zl6]
  refine AnyR.tk (i := 13) 2 (v := ?_) rfl (by as_aux_lemma => kernel_rfl) (fun _ _ _ h => h) hHeld (by rfl) ?_ ?_
  rotate_left
  focus (intro w h; clear h; go_simp <;> with_reducible rfl)
  clear hHeld
  intro hHeld
  try simp only [Act.put, zl1, zl2, zl3, zl4, zl5, zl6]
  refine AnyR.tk (i := 14) 2 (v := ?_) rfl (by as_aux_lemma => kernel_rfl) (fun _ _ _ h => h) hHeld (by rfl) ?_ ?_
  rotate_left
  focus (intro w h; clear h; go_simp <;> with_reducible rfl)
  clear hHeld
  intro hHeld
  try simp only [Act.put, zl1, zl2, zl3, zl4, zl5, zl6]
  refine AnyR.one (i := 28) (by as_aux_lemma => kernel_rfl) rfl (fun K hK => ?_)
  go_simp
  go_at_call 12
  refine (HB2.out _ ST.out.old.drew).mono ?_
  rintro e w8 ⟨rfl, rfl⟩
  refine hK.out _ _ (fun cls => match cls with | 0 => .inr ⟨pa4, ea1⟩ | 1 => .inr ⟨eb0, pb4, eb1⟩ | 2 => .inr trivial | _ + 3 => .inr trivial) (fun hHeld => ?_)
  clear hK K
  try simp only [Act.put, zl1, zl2, zl3, zl4, zl5, zl6]
  refine AnyR.tk (i := 29) 2 (v := ?_) rfl (by as_aux_lemma => kernel_rfl) (fun _ _ _ h => h) hHeld (by rfl) ?_ ?_
  rotate_left
  focus (intro w h; clear h; go_simp <;> with_reducible rfl)
  clear hHeld
  intro hHeld
  try simp only [Act.put, zl1, zl2, zl3, zl4, zl5, zl6]
  refine AnyR.tk (i := 30) 2 (v := ?_) rfl (by as_aux_lemma => kernel_rfl) (fun _ _ _ h => h) hHeld (by rfl) ?_ ?_
  rotate_left
  focus (intro w h; clear h; go_simp <;> with_reducible rfl)
  clear hHeld
  intro hHeld
  try simp only [Act.put, zl1, zl2, zl3, zl4, zl5, zl6]
  refine AnyR.tk (i := 31) 2 (v := ?_) rfl (by as_aux_lemma => kernel_rfl) (fun _ _ _ h => h) hHeld (by rfl) ?_ ?_
  rotate_left
  focus (intro w h; clear h; go_simp <;> with_reducible rfl)
  clear hHeld
  intro hHeld
  try simp only [Act.put, zl1, zl2, zl3, zl4, zl5, zl6]
  refine AnyR.one (i := 32) (by as_aux_lemma => kernel_rfl) rfl (fun K hK => ?_)
  go_simp
  refine hK.out _ _ (fun cls => match cls with | 0 => .inl (by as_aux_lemma => kernel_rfl) | 1 => .inr (by simp only [World.cell?_drew, FRA.out _ _ _ ⟨rb, _, none⟩ hab', FRA.out _ _ _ ⟨pb, _, none⟩ hpbra, eb0, pb4, eb1, and_self]) | 2 => .inr trivial | _ + 3 => .inr trivial) (fun hHeld => ?_)
  clear hK K
  try simp only [Act.put, zl1, zl2, zl3, zl4, zl5, zl6]
  refine AnyR.one (i := 33) (by as_aux_lemma => kernel_rfl) rfl (fun K hK => ?_)
  go_simp
  refine hK.out _ _ (fun cls => match cls with | 0 => .inl (by as_aux_lemma => kernel_rfl) | 1 => .inl (by as_aux_lemma => kernel_rfl) | 2 => .inr trivial | _ + 3 => .inr trivial) (fun hHeld => ?_)
  clear hK K
  try simp only [Act.put, zl1, zl2, zl3, zl4, zl5, zl6]
  refine AnyR.end_ (by as_aux_lemma => kernel_rfl) ?_
  exact ⟨Lib.hid (FSt.drew (ST.out.put HD.out (by dsimp only; rw [Int.natCast_add, Int.natCast_mul]) rfl rfl (by dsimp only; rw [Int.natCast_add, Int.natCast_mul]) rfl rfl RC1.out RC2.out (.leaf (.int HU.out)) (.leaf (.int HU2.out)) ⟨bb1, bb2⟩)), rfl⟩
 case h2 =>
  intro w6 ST2
  clear bq1 bs1 bb1 bq2 bs2 bb2 HB1 HB2 fa0 fa1 fa2 fa3 fb0 fb1 fb2 fb3 pa4 pb4 pa0 pa2 pb0 pb2 pal pbl eb0 eb1 eb2 eb3 xbl
  obtain ⟨s2, hs2⟩ : ∃ s2 : FS, s2 = ⟨u1, ao + i * u1.bytes, 0, 0, u2, bo + i * u2.bytes, 0, 0⟩ := ⟨_, rfl⟩
  have HGO : Hid (R = if cmpF s2.a s2.b = true then fieldGo rest s2 else (s2, .poison)) := by rw [hs2]; exact HGO
  rw [← hs2] at ST2
  obtain ⟨p1, hp1⟩ : ∃ z, z = c1 := ⟨_, rfl⟩
  obtain ⟨q1, hq1⟩ : ∃ z, z = c2 := ⟨_, rfl⟩
  rw [← hp1, ← hq1] at ST2
  clear hs2 hp1 hq1
  clear ea0 ea1 ea2 ea3 xal gl hi2
  obtain ⟨ua, uo, ub, uf, va, vo, vb, vf⟩ := s2
  have e0 := (ST2.out.ba.four).1
  have e1 := (ST2.out.bb.four).1
  have el := ST2.out.ba.lt
  have fl := ST2.out.bb.lt
  have hcp := compatF ua.cnt (Nat.le_refl _) ST2.out.oka ST2.out.okb (ST2.out.ta.old ST2.out.old) (ST2.out.tb.old ST2.out.old)
  by_cases hcf : cmpF ua va = true
  ·rw [hcf] at hcp
   have HR2 : Hid (R = fieldGo rest ⟨ua, uo, ub, uf, va, vo, vb, vf⟩) := Lib.hid (HGO.out.trans (if_pos hcf))
   clear hcf HGO
   go_wp2_with fail
   refine hcp.mono ?_
   rintro e w9 ⟨rfl, nd, hw9⟩
   have ST3 : Hid (FSt W z6 z7 ra rb p1 q1 (60000000 + (k + 1) * 100000) ⟨ua, uo, ub, uf, va, vo, vb, vf⟩ w9) := Lib.hid (ST2.out.below (by rw [hw9]; exact below_drewN (Below.refl _ _) _) (Nat.le_refl _))
   clear hw9 ST2 hcp e0 e1 el fl
   have hwk : IntKind.i64.wrap ((k : Int) + 1) = ((k + 1 : Nat) : Int) := IntWalk.i64_in _ (by omega)
   go_wp2_with fail
   go_roundg rest.length
   case measure => omega
   case rel => exact ⟨rest, k + 1, _, p1, q1, _, _, by omega, Nat.le_refl _, by first | rfl | (simp only [hwk]; done) | omega, rfl, rfl, HACC1, ST3, HR2⟩
  ·have hcf' : cmpF ua va = false := by simpa using hcf
   rw [hcf'] at hcp
   have HRES : Hid (R = (⟨ua, uo, ub, uf, va, vo, vb, vf⟩, .poison)) := Lib.hid (HGO.out.trans (if_neg hcf))
   clear hcf hcf' HGO
   go_wp2_with fail
   refine hcp.mono ?_
   rintro e w9 ⟨rfl, nd, hw9⟩
   have ST3 : Hid (FSt W z6 z7 ra rb p1 q1 (60000000 + (k + 1) * 100000) ⟨ua, uo, ub, uf, va, vo, vb, vf⟩ w9) := Lib.hid (ST2.out.below (by rw [hw9]; exact below_drewN (Below.refl _ _) _) (Nat.le_refl _))
   clear hw9 ST2 hcp e0 e1 el fl
   obtain ⟨ea0, ea1, ea2, ea3⟩ := ST3.out.ba.four
   obtain ⟨eb0, eb1, eb2, eb3⟩ := ST3.out.bb.four
   have k60 := ST3.out.b6.free 0
   have k61 := ST3.out.b6.free 1
   have k62 := ST3.out.b6.free 2
   have k63 := ST3.out.b6.free 3
   have k70 := ST3.out.b7.free 0
   have k71 := ST3.out.b7.free 1
   have k72 := ST3.out.b7.free 2
   have k73 := ST3.out.b7.free 3
   have k6l := ST3.out.b6.lt
   have k7l := ST3.out.b7.lt
   obtain ⟨z60, z61, z62, z63⟩ := ST3.out.b6.four
   obtain ⟨z70, z71, z72, z73⟩ := ST3.out.b7.four
   have xal := ST3.out.ba.lt
   have xbl := ST3.out.bb.lt
   have d67 := HD.out.d67
   have d76 := HD.out.d67.symm
   have f6a := F6a.out
   have f6b := F6b.out
   have f7a := F7a.out
   have f7b := F7b.out
   go_upto_region 41 with fail
   apply wp_meet0 (fun w' => Hid (FEnd W z6 z7 p1 uo ub uf q1 vo vb vf w'))
   case h1 =>
    refine AnyR.start (wr := [3, 2]) (rd := (fun cls => match cls with | 0 => [0, 1] | 1 => [4] | _ + 2 => [])) (Sf := (fun cls w' => match cls with | 0 => w'.cell? ⟨ra, 0, none⟩ = some (.pointer (some ⟨p1, 0, none⟩)) ∧ w'.cell? ⟨ra, 1, none⟩ = some (.int .i64 (uo : Nat)) ∧ w'.cell? ⟨ra, 2, none⟩ = some (.int .i64 (ub : Nat)) ∧ w'.cell? ⟨ra, 3, none⟩ = some (.int .i64 (uf : Nat)) ∧ w'.cell? ⟨rb, 0, none⟩ = some (.pointer (some ⟨q1, 0, none⟩)) ∧ w'.cell? ⟨rb, 1, none⟩ = some (.int .i64 (vo : Nat)) ∧ w'.cell? ⟨rb, 2, none⟩ = some (.int .i64 (vb : Nat)) ∧ w'.cell? ⟨rb, 3, none⟩ = some (.int .i64 (vf : Nat)) | 1 => True | _ + 2 => True)) (by as_aux_lemma => kernel_rfl) (fun cls => match cls with | 0 => ⟨ea0, ea1, ea2, ea3, eb0, eb1, eb2, eb3⟩ | 1 => trivial | _ + 2 => trivial) (fun hHeld => ?_)
    refine AnyR.tk (i := 0) 0 (v := ?_) rfl (by as_aux_lemma => kernel_rfl) (fun _ _ _ h => h) hHeld (by rfl) ?_ ?_
    rotate_left
    focus (intro w hSw0; have hSw : (fun w' : World => w'.cell? ⟨ra, 0, none⟩ = some (.pointer (some ⟨p1, 0, none⟩)) ∧ w'.cell? ⟨ra, 1, none⟩ = some (.int .i64 (uo : Nat)) ∧ w'.cell? ⟨ra, 2, none⟩ = some (.int .i64 (ub : Nat)) ∧ w'.cell? ⟨ra, 3, none⟩ = some (.int .i64 (uf : Nat)) ∧ w'.cell? ⟨rb, 0, none⟩ = some (.pointer (some ⟨q1, 0, none⟩)) ∧ w'.cell? ⟨rb, 1, none⟩ = some (.int .i64 (vo : Nat)) ∧ w'.cell? ⟨rb, 2, none⟩ = some (.int .i64 (vb : Nat)) ∧ w'.cell? ⟨rb, 3, none⟩ = some (.int .i64 (vf : Nat))) w := hSw0; clear hSw0; (try dsimp only at hSw); go_simp <;> with_reducible rfl)
    clear hHeld
    intro hHeld
    try simp only [Act.put, zl1, zl2, zl3, zl4, zl5, zl6]
    refine AnyR.tk (i := 1) 0 (v := ?_) rfl (by as_aux_lemma => kernel_rfl) (fun _ _ _ h => h) hHeld (by rfl) ?_ ?_
    rotate_left
    focus (intro w hSw0; have hSw : (fun w' : World => w'.cell? ⟨ra, 0, none⟩ = some (.pointer (some ⟨p1, 0, none⟩)) ∧ w'.cell? ⟨ra, 1, none⟩ = some (.int .i64 (uo : Nat)) ∧ w'.cell? ⟨ra, 2, none⟩ = some (.int .i64 (ub : Nat)) ∧ w'.cell? ⟨ra, 3, none⟩ = some (.int .i64 (uf : Nat)) ∧ w'.cell? ⟨rb, 0, none⟩ = some (.pointer (some ⟨q1, 0, none⟩)) ∧ w'.cell? ⟨rb, 1, none⟩ = some (.int .i64 (vo : Nat)) ∧ w'.cell? ⟨rb, 2, none⟩ = some (.int .i64 (vb : Nat)) ∧ w'.cell? ⟨rb, 3, none⟩ = some (.int .i64 (vf : Nat))) w := hSw0; clear hSw0; (try dsimp only at hSw); go_simp <;> with_reducible rfl)
    clear hHeld
    intro hHeld
    try simp only [Act.put, zl1, zl2, zl3, zl4, zl5, zl6]
    refine AnyR.one (i := 2) (by as_aux_lemma => kernel_rfl) rfl (fun K hK => ?_)
    go_simp
    refine hK.out _ _ (fun cls => match cls with | 0 => .inr (by simp only [World.cell?_drew, f6a, f6b, f7a, f7b, ea0, ea1, ea2, ea3, eb0, eb1, eb2, eb3, and_self]) | 1 => .inr trivial | _ + 2 => .inr trivial) (fun hHeld => ?_)
    clear hK K
    try simp only [Act.put, zl1, zl2, zl3, zl4, zl5, zl6]
    refine AnyR.one (i := 3) (by as_aux_lemma => kernel_rfl) rfl (fun K hK => ?_)
    go_simp
    refine hK.out _ _ (fun cls => match cls with | 0 => .inr (by simp only [World.cell?_drew, f6a, f6b, f7a, f7b, ea0, ea1, ea2, ea3, eb0, eb1, eb2, eb3, and_self]) | 1 => .inr trivial | _ + 2 => .inr trivial) (fun hHeld => ?_)
    clear hK K
    try simp only [Act.put, zl1, zl2, zl3, zl4, zl5, zl6]
    refine AnyR.tk (i := 4) 1 (v := ?_) rfl (by as_aux_lemma => kernel_rfl) (fun _ _ _ h => h) hHeld (by rfl) ?_ ?_
    rotate_left
    focus (intro w h; clear h; go_simp <;> with_reducible rfl)
    clear hHeld
    intro hHeld
    try simp only [Act.put, zl1, zl2, zl3, zl4, zl5, zl6]
    refine AnyR.end_ (by as_aux_lemma => kernel_rfl) ?_
    exact ⟨Lib.hid (ST3.out.fend HD.out), rfl⟩
   case h2 =>
    intro w4 FE
    clear ea0 ea1 ea2 ea3 eb0 eb1 eb2 eb3 k60 k61 k62 k63 k70 k71 k72 k73 k6l k7l z60 z61 z62 z63 z70 z71 z72 z73 xal xbl d67 d76 f6a f6b f7a f7b
    obtain ⟨y0, y1, y2, y3⟩ := FE.out.b6.four
    obtain ⟨x0, x1, x2, x3⟩ := FE.out.b7.four
    have yl := FE.out.b6.lt
    have xl := FE.out.b7.lt
    go_wp2_with fail
    refine bodyPost_ret (v := .tuple #[fldV p1 uo ub uf, fldV q1 vo vb vf, .int .i64 1]) ?_ rfl ⟨p1, q1, by rw [HRES.out]; rfl, by rw [HRES.out]; exact ST3.out.ta, by rw [HRES.out]; exact ST3.out.tb, by rw [HRES.out]; exact ST3.out.oka, by rw [HRES.out]; exact ST3.out.okb, FE.out.old⟩
    rw [results_cct rfl]
    unfold fldV
    go_simp
end
section
variable {c0 c2 c3 c4 c5 c20 c21 c22 c23 c24 c25 c26 c27 c28 c29 c30 c31 c32 c33 c34 c35 c36 c37 c38 c39 c40 c41 c42 c43 c44 c284 c285 u8 u13 u14 u15 u16 u17 u18 u19 u48 u49 u50 u51 u52 u53 u54 u55 u56 u57 u58 u59 u60 u61 u62 u63 u64 u65 u66 u67 u68 u69 u70 u71 u72 u73 u74 u75 u76 u77 u78 u79 u80 u81 u82 u83 u84 u85 u86 u87 u88 u89 u90 u91 u92 u93 u94 u95 u96 u97 u98 u99 u100 u101 u102 u103 u104 u105 u106 u107 u108 u109 u110 u111 u112 u113 u114 u115 u116 u117 u118 u119 u120 u121 u122 u123 u124 u125 u126 u127 u128 u129 u130 u131 u132 u133 u134 u135 u136 u137 u138 u139 u140 u141 u142 u143 u144 u145 u146 u147 u148 u149 u150 u151 u152 u153 u154 u155 u156 u157 u158 u159 u160 u161 u162 u163 u164 u165 u166 u167 u168 u169 u170 u171 u172 u173 u174 u175 u176 u177 u178 u179 u180 u181 u182 u183 u184 u185 u186 u187 u188 u189 u190 u191 u192 u193 u194 u195 u196 u197 u198 u199 u200 u201 u202 u203 u204 u205 u206 u207 u208 u209 u210 u211 u212 u213 u214 u215 u216 u217 u218 u219 u220 u221 u222 u223 u224 u225 u226 u227 u228 u229 u230 u231 u232 u233 u234 u235 u236 u237 u238 u239 u240 u241 u242 u243 u244 u245 u246 u247 u248 u249 u250 u251 u252 u253 u254 u255 u256 u257 u258 u259 u260 u261 u262 u263 u264 u265 u266 u267 u268 u269 u270 u271 u272 u273 u274 u275 u276 u277 u278 u279 u280 u281 u282 u283 : Value}
theorem fld_anon {W wr : World} {g L cap z6 z7 ra rb plen pa pb k i gk : Nat} {rest : List Nat} {oa ob : Bool} {R : FS × Out} {J : Nat → Act → World → Prop} {K K6 : Act → World → Prop}
  {un : Bool} {nm : ByteArray} {sz n : Nat} {pn : Nat → ByteArray} {py : Nat → Ty} {xa xb : Nat → Nat} {tb : Ty} {ao ab af bo bbi bf : Nat} (hin : ¬ n ≤ i) (h0 : (pn i).size = 0)
  (X : FCtx W g L cap z6 z7 ra rb plen) (hqk : (i :: rest).length + k = plen) (hqg : (i :: rest).length ≤ gk) (HACC : Hid (Acc W g L (i :: rest) (k + 1))) (ST : Hid (FSt W z6 z7 ra rb pa pb (60000000 + k * 100000) ⟨.comp un nm sz n pn py xa xb, ao, ab, af, tb, bo, bbi, bf⟩ wr)) (HRR : Hid (R = fieldGo (i :: rest) ⟨.comp un nm sz n pn py xa xb, ao, ab, af, tb, bo, bbi, bf⟩))
  (hJ : ∀ k' a' w', FInv W g L cap z6 z7 ra rb plen R c0 c2 c3 c4 c5 c20 c21 c22 c23 c24 c25 c26 c27 c28 c29 c30 c31 c32 c33 c34 c35 c36 c37 c38 c39 c40 c41 c42 c43 c44 c284 c285 k' a' w' → J k' a' w') (hK : ∀ a' w', Handed J gk a' w' → K a' w') :
  Code.wp Tryz.prog fldBody (Exit.then K (Exit.inBlock 0 (Exit.then K6 (bodyPost Tryz.prog Tryz.f11 (FRes W R))))) ⟨#[c0, .slice (some ⟨g, 0, none⟩) L cap, c2, c3, c4, c5, .pointer (some ⟨z6, 0, none⟩), .pointer (some ⟨z7, 0, none⟩), u8, .pointer (some ⟨ra, 0, none⟩), .pointer (some ⟨rb, 0, none⟩), .bool oa, .bool ob, u13, u14, u15, u16, u17, u18, u19, c20, c21, c22, c23, c24, c25, c26, c27, c28, c29, c30, c31, c32, c33, c34, c35, c36, c37, c38, c39, c40, c41, c42, c43, c44, .slice (some ⟨g, 1, none⟩) (L - 1) (cap - 1), .int .i64 ((L - 1 : Nat) : Int), .int .i64 (k : Int), u48, u49, u50, u51, u52, u53, u54, u55, u56, u57, u58, u59, u60, u61, u62, u63, u64, u65, u66, u67, u68, u69, u70, u71, u72, u73, u74, u75, u76, u77, u78, u79, u80, u81, u82, u83, u84, u85, u86, u87, u88, u89, u90, u91, u92, u93, u94, u95, u96, u97, u98, u99, u100, u101, u102, u103, u104, u105, u106, u107, u108, u109, u110, u111, u112, u113, u114, u115, u116, u117, u118, u119, u120, u121, u122, u123, u124, u125, u126, u127, u128, u129, u130, u131, u132, u133, u134, u135, u136, u137, u138, u139, u140, u141, u142, u143, u144, u145, u146, u147, u148, u149, u150, u151, u152, u153, u154, u155, u156, u157, u158, u159, u160, u161, u162, u163, u164, u165, u166, u167, u168, u169, u170, u171, u172, u173, u174, u175, u176, u177, u178, u179, u180, u181, u182, u183, u184, u185, u186, u187, u188, u189, u190, u191, u192, u193, u194, u195, u196, u197, u198, u199, u200, u201, u202, u203, u204, u205, u206, u207, u208, u209, u210, u211, u212, u213, u214, u215, u216, u217, u218, u219, u220, u221, u222, u223, u224, u225, u226, u227, u228, u229, u230, u231, u232, u233, u234, u235, u236, u237, u238, u239, u240, u241, u242, u243, u244, u245, u246, u247, u248, u249, u250, u251, u252, u253, u254, u255, u256, u257, u258, u259, u260, u261, u262, u263, u264, u265, u266, u267, u268, u269, u270, u271, u272, u273, u274, u275, u276, u277, u278, u279, u280, u281, u282, u283, c284, c285], []⟩ wr := by
 obtain ⟨hL, hg, hcap, hlen, hL2, DD⟩ := X
 have HD := Lib.hid DD
 obtain ⟨F6a, F6b, F7a, F7b⟩ := DD.far
 have hab := DD.dab
 have hab' := DD.dab.symm
 clear DD
 have hLp : (1 : Int) ≤ L := by omega
 have hcapp : (L : Int) ≤ cap := by omega
 have hc2 : (2 : Int) ≤ cap := by omega
 simp only [List.length_cons] at hqk hqg
 have hkL : (k : Int) < L - 1 := by omega
 have hkL' : ¬ ((L : Int) - 1 ≤ k) := by omega
 obtain ⟨hi0, hi1⟩ := HACC.out.2 0 i rfl
 have HACC1 := Lib.hid HACC.out.tail
 have hi2 := (ST.out.old.cell (p := ⟨g, k + 1 + 0, none⟩) hg).trans hi0
 rw [Nat.add_zero, Nat.add_comm] at hi2
 have gl := Nat.lt_of_lt_of_le hg ST.out.old.size
 clear hi0 HACC
 have H_hin := Lib.hid hin
 clear hin
 have H_h0 := Lib.hid h0
 clear h0
 have RA : Hid (Rep wr Nowhere pa (.comp un nm sz n pn py xa xb)) := Lib.hid (ST.out.ta.old ST.out.old)
 have TA : Hid (Rep W Nowhere pa (.comp un nm sz n pn py xa xb)) := Lib.hid ST.out.ta
 have TB : Hid (Rep W Nowhere pb tb) := Lib.hid ST.out.tb
 have hcm := composite_any RA.out
 have pal := RA.out.lt
 rw [isC_comp] at hcm
 obtain ⟨pv, pxs, pc, hblk, hown, hrow, hrep⟩ := TA.out.comp_inv
 obtain ⟨sa, scap, rfl⟩ := own_slice hown
 obtain ⟨_, _, _, _, _, c5W⟩ := hblk.six
 have HC5 := Lib.hid (fun (W' : World) (hW : Below W.heap.size W W') => (hW.cell (p := ⟨pa, 5, none⟩) hblk.lt).trans c5W)
 have c5 := HC5.out _ ST.out.old
 clear c5W
 obtain ⟨hsz, hn20, hpp, hyy, haa⟩ := ST.out.oka.parts
 have HO := Lib.hid hown
 have HRW := Lib.hid hrow
 have HRP := Lib.hid hrep
 have HPP := Lib.hid hpp
 have HYY := Lib.hid hyy
 have HAA := Lib.hid haa
 clear hblk hown hrow hrep hpp hyy haa hsz
 obtain ⟨ea0, ea1, ea2, ea3⟩ := ST.out.ba.four
 have xal := ST.out.ba.lt
 conv => arg 2; whnf
 go_wp2_with fail
 refine hcm.mono ?_
 rintro e wB ⟨rfl, rfl⟩
 clear hcm
 have hin := H_hin.out
 have hinI : ¬ (n : Int) ≤ i := by omega
 have hil : i < n := by omega
 obtain ⟨sg, scap', hse, -⟩ := own_form HO.out (by omega)
 simp only [Value.slice.injEq] at hse
 obtain ⟨rfl, -, rfl⟩ := hse
 have HOw := CellsKept.own (CellsKept.below ST.out.old) HO.out
 obtain ⟨q0, q1, q2, q3, q4⟩ := row_cells HOw (HRW.out i hil)
 have lg := (HOw.lt sg rfl).2
 have hxa : xa i ≤ 400000 := Nat.le_trans (HPP.out i hil).1 (by decide)
 have HTJ := Lib.hid (HRP.out i hil)
 have HOJ := Lib.hid (HYY.out i hil)
 clear HOw
 have h0 := H_h0.out
 have x1 := name_nil h0
 obtain ⟨-, -, un', nm', sz', n', pn', py', pa', pb', hpy, -⟩ := HAA.out i hil h0
 have hst : stepF ⟨.comp un nm sz n pn py xa xb, ao, ab, af, tb, bo, bbi, bf⟩ i rest.isEmpty = (⟨py i, ao + xa i / 8, 0, 0, tb, bo, bbi, bf⟩, none) := by unfold stepF; simp only [if_neg hin, if_pos h0]
 have HR2 : Hid (R = fieldGo rest ⟨py i, ao + xa i / 8, 0, 0, tb, bo, bbi, bf⟩) := Lib.hid (HRR.out.trans (fieldGo_on hst))
 have hrj := HTJ.out
 rw [hpy] at hrj
 have HLD : Hid (Leads W Nowhere (pc i) (.comp un' nm' sz' n' pn' py' pa' pb') (pc i)) := Lib.hid (Leads.comp hrj)
 obtain ⟨hdv, hsm, hbd⟩ := part_bnd hxa ST.out.bnd.1 (by omega : k ≤ 5)
 clear hst hrj hpy h0 hin HRR
 go_upto_region 16 with fail
 obtain ⟨pk, hpk⟩ : ∃ z, z = wB.heap.size := ⟨_, rfl⟩
 obtain ⟨wP, hwP⟩ : ∃ z : World, z = wB.alloc (.cells #[.string (pn i), .pointer (some ⟨pc i, 0, none⟩), .int .i64 (xa i : Nat), .int .i64 (xb i : Nat), .int .i64 0] 56) := ⟨_, rfl⟩
 rw [← hpk, ← hwP]
 have hbP : Below wB.heap.size wB wP := by rw [hwP]; exact (Below.refl _ _).alloc (Nat.le_refl _) _
 have hpb : Blk wP pk #[.string (pn i), .pointer (some ⟨pc i, 0, none⟩), .int .i64 (xa i : Nat), .int .i64 (xb i : Nat), .int .i64 0] 56 := by rw [hwP, hpk]; exact Blk.new _ _ _
 have hpra : pk ≠ ra := by omega
 have STP := Lib.hid (ST.out.below hbP (Nat.le_refl _))
 clear ea0 ea1 ea2 ea3 q0 q1 q2 q3 q4 xal hwP x1
 obtain ⟨ea0, ea1, ea2, ea3⟩ := STP.out.ba.four
 obtain ⟨p0, p1, p2, p3, p4⟩ := hpb.five
 have pl := hpb.lt
 have xal := STP.out.ba.lt
 have fa0 := STP.out.ba.free 0
 have fa1 := STP.out.ba.free 1
 have fa2 := STP.out.ba.free 2
 have fa3 := STP.out.ba.free 3
 clear hpk hbP hpb
 apply wp_meet0 (fun w' => Hid (FSt W z6 z7 ra rb (pc i) pb (60000000 + (k + 1) * 100000) ⟨py i, ao + xa i / 8, 0, 0, tb, bo, bbi, bf⟩ w'))
 case h1 =>
  refine AnyR.start (wr := [10]) (rd := (fun cls => match cls with | 0 => [1, 4, 6] | 1 => [0, 3, 5, 7, 8, 9] | _ + 2 => [])) (Sf := (fun cls w' => match cls with | 0 => w'.cell? ⟨pk, 1, none⟩ = some (.pointer (some ⟨pc i, 0, none⟩)) ∧ w'.cell? ⟨pk, 2, none⟩ = some (.int .i64 (xa i : Nat)) ∧ w'.cell? ⟨ra, 1, none⟩ = some (.int .i64 (ao : Nat)) | 1 => True | _ + 2 => True)) (by as_aux_lemma => kernel_rfl) (fun cls => match cls with | 0 => ⟨p1, p2, ea1⟩ | 1 => trivial | _ + 2 => trivial) (fun hHeld => ?_)
  refine AnyR.tk (i := 0) 1 (v := ?_) rfl (by as_aux_lemma => kernel_rfl) (fun _ _ _ h => h) hHeld (by rfl) ?_ ?_
  rotate_left
  focus (intro w h; clear h; go_simp <;> with_reducible rfl)
  clear hHeld
  intro hHeld
  try simp only [Act.put, zl1, zl2, zl3, zl4, zl5, zl6]
  refine AnyR.tk (i := 3) 1 (v := ?_) rfl (by as_aux_lemma => kernel_rfl) (fun _ _ _ h => h) hHeld (by rfl) ?_ ?_
  rotate_left
  focus (intro w h; clear h; go_simp <;> with_reducible rfl)
  clear hHeld
  intro hHeld
  try simp only [Act.put, zl1, zl2, zl3, zl4, zl5, zl6]
  refine AnyR.tk (i := 5) 1 (v := ?_) rfl (by as_aux_lemma => kernel_rfl) (fun _ _ _ h => h) hHeld (by rfl) ?_ ?_
  rotate_left
  focus (intro w h; clear h; go_simp <;> with_reducible rfl)
  clear hHeld
  intro hHeld
  try simp only [Act.put, zl1, zl2, zl3, zl4, zl5, zl6]
  refine AnyR.tk (i := 1) 0 (v := ?_) rfl (by as_aux_lemma => kernel_rfl) (fun _ _ _ h => h) hHeld (by rfl) ?_ ?_
  rotate_left
  focus (intro w hSw0; have hSw : (fun w' : World => w'.cell? ⟨pk, 1, none⟩ = some (.pointer (some ⟨pc i, 0, none⟩)) ∧ w'.cell? ⟨pk, 2, none⟩ = some (.int .i64 (xa i : Nat)) ∧ w'.cell? ⟨ra, 1, none⟩ = some (.int .i64 (ao : Nat))) w := hSw0; clear hSw0; (try dsimp only at hSw); go_simp <;> with_reducible rfl)
  clear hHeld
  intro hHeld
  try simp only [Act.put, zl1, zl2, zl3, zl4, zl5, zl6]
  refine AnyR.tk (i := 4) 0 (v := ?_) rfl (by as_aux_lemma => kernel_rfl) (fun _ _ _ h => h) hHeld (by rfl) ?_ ?_
  rotate_left
  focus (intro w hSw0; have hSw : (fun w' : World => w'.cell? ⟨pk, 1, none⟩ = some (.pointer (some ⟨pc i, 0, none⟩)) ∧ w'.cell? ⟨pk, 2, none⟩ = some (.int .i64 (xa i : Nat)) ∧ w'.cell? ⟨ra, 1, none⟩ = some (.int .i64 (ao : Nat))) w := hSw0; clear hSw0; (try dsimp only at hSw); go_simp <;> with_reducible rfl)
  clear hHeld
  intro hHeld
  try simp only [Act.put, zl1, zl2, zl3, zl4, zl5, zl6]
  refine AnyR.tk (i := 6) 0 (v := ?_) rfl (by as_aux_lemma => kernel_rfl) (fun _ _ _ h => h) hHeld (by rfl) ?_ ?_
  rotate_left
  focus (intro w hSw0; have hSw : (fun w' : World => w'.cell? ⟨pk, 1, none⟩ = some (.pointer (some ⟨pc i, 0, none⟩)) ∧ w'.cell? ⟨pk, 2, none⟩ = some (.int .i64 (xa i : Nat)) ∧ w'.cell? ⟨ra, 1, none⟩ = some (.int .i64 (ao : Nat))) w := hSw0; clear hSw0; (try dsimp only at hSw); go_simp <;> with_reducible rfl)
  clear hHeld
  intro hHeld
  try simp only [Act.put, zl1, zl2, zl3, zl4, zl5, zl6]
  refine AnyR.tk (i := 7) 1 (v := ?_) rfl (by as_aux_lemma => kernel_rfl) (fun _ _ _ h => h) hHeld (by rfl) ?_ ?_
  rotate_left
  focus (intro w h; clear h; go_simp <;> with_reducible rfl)
  clear hHeld
  intro hHeld
  try simp only [Act.put, zl1, zl2, zl3, zl4, zl5, zl6]
  refine AnyR.tk (i := 8) 1 (v := ?_) rfl (by as_aux_lemma => kernel_rfl) (fun _ _ _ h => h) hHeld (by rfl) ?_ ?_
  rotate_left
  focus (intro w h; clear h; go_simp <;> with_reducible rfl)
  clear hHeld
  intro hHeld
  try simp only [Act.put, zl1, zl2, zl3, zl4, zl5, zl6]
  refine AnyR.one (i := 2) (by as_aux_lemma => kernel_rfl) rfl (fun K hK => ?_)
  go_simp
  go_at_call 13
  refine (leads_calls (HLD.out.old STP.out.old.drew)).mono ?_
  rintro e w8 ⟨rfl, rfl⟩
  refine hK.out _ _ (fun cls => match cls with | 0 => .inr ⟨p1, p2, ea1⟩ | 1 => .inr trivial | _ + 2 => .inr trivial) (fun hHeld => ?_)
  clear hK K
  try simp only [Act.put, zl1, zl2, zl3, zl4, zl5, zl6]
  refine AnyR.tk (i := 9) 1 (v := ?_) rfl (by as_aux_lemma => kernel_rfl) (fun _ _ _ h => h) hHeld (by rfl) ?_ ?_
  rotate_left
  focus (intro w h; clear h; go_simp <;> with_reducible rfl)
  clear hHeld
  intro hHeld
  try simp only [Act.put, zl1, zl2, zl3, zl4, zl5, zl6]
  refine AnyR.one (i := 10) (by as_aux_lemma => kernel_rfl) rfl (fun K hK => ?_)
  go_simp
  refine hK.out _ _ (fun cls => match cls with | 0 => .inl (by as_aux_lemma => kernel_rfl) | 1 => .inr trivial | _ + 2 => .inr trivial) (fun hHeld => ?_)
  clear hK K
  try simp only [Act.put, zl1, zl2, zl3, zl4, zl5, zl6]
  refine AnyR.end_ (by as_aux_lemma => kernel_rfl) ?_
  exact ⟨Lib.hid (FSt.drew (STP.out.putA HD.out (by dsimp only; omega) rfl rfl rfl rfl rfl rfl HTJ.out HOJ.out ⟨hbd, Nat.le_trans STP.out.bnd.2 (by omega)⟩)), rfl⟩
 case h2 =>
  intro w6 ST2
  clear ea0 ea1 ea2 ea3 p0 p1 p2 p3 p4 pl xal fa0 fa1 fa2 fa3 STP hdv hsm hbd
  have hwk : IntKind.i64.wrap ((k : Int) + 1) = ((k + 1 : Nat) : Int) := IntWalk.i64_in _ (by omega)
  go_wp2_with fail
  go_roundg rest.length
  case measure => omega
  case rel => exact ⟨rest, k + 1, _, pc i, pb, _, _, by omega, Nat.le_refl _, by first | rfl | (simp only [hwk]; done) | omega, rfl, rfl, HACC1, ST2, HR2⟩
theorem fld_19 {W wr : World} {g L cap z6 z7 ra rb plen pa pb k i gk : Nat} {rest : List Nat} {oa ob : Bool} {R : FS × Out} {J : Nat → Act → World → Prop} {K K6 : Act → World → Prop}
  {un : Bool} {nm : ByteArray} {sz n : Nat} {pn : Nat → ByteArray} {py : Nat → Ty} {xa xb : Nat → Nat} {tb : Ty} {ao ab af bo bbi bf : Nat} (hin : ¬ n ≤ i) (h0 : ¬ (pn i).size = 0) (hnC : isC tb = false)
  (X : FCtx W g L cap z6 z7 ra rb plen) (hqk : (i :: rest).length + k = plen) (hqg : (i :: rest).length ≤ gk) (HACC : Hid (Acc W g L (i :: rest) (k + 1))) (ST : Hid (FSt W z6 z7 ra rb pa pb (60000000 + k * 100000) ⟨.comp un nm sz n pn py xa xb, ao, ab, af, tb, bo, bbi, bf⟩ wr)) (HRR : Hid (R = fieldGo (i :: rest) ⟨.comp un nm sz n pn py xa xb, ao, ab, af, tb, bo, bbi, bf⟩))
  (hJ : ∀ k' a' w', FInv W g L cap z6 z7 ra rb plen R c0 c2 c3 c4 c5 c20 c21 c22 c23 c24 c25 c26 c27 c28 c29 c30 c31 c32 c33 c34 c35 c36 c37 c38 c39 c40 c41 c42 c43 c44 c284 c285 k' a' w' → J k' a' w') (hK : ∀ a' w', Handed J gk a' w' → K a' w') :
  Code.wp Tryz.prog fldBody (Exit.then K (Exit.inBlock 0 (Exit.then K6 (bodyPost Tryz.prog Tryz.f11 (FRes W R))))) ⟨#[c0, .slice (some ⟨g, 0, none⟩) L cap, c2, c3, c4, c5, .pointer (some ⟨z6, 0, none⟩), .pointer (some ⟨z7, 0, none⟩), u8, .pointer (some ⟨ra, 0, none⟩), .pointer (some ⟨rb, 0, none⟩), .bool oa, .bool ob, u13, u14, u15, u16, u17, u18, u19, c20, c21, c22, c23, c24, c25, c26, c27, c28, c29, c30, c31, c32, c33, c34, c35, c36, c37, c38, c39, c40, c41, c42, c43, c44, .slice (some ⟨g, 1, none⟩) (L - 1) (cap - 1), .int .i64 ((L - 1 : Nat) : Int), .int .i64 (k : Int), u48, u49, u50, u51, u52, u53, u54, u55, u56, u57, u58, u59, u60, u61, u62, u63, u64, u65, u66, u67, u68, u69, u70, u71, u72, u73, u74, u75, u76, u77, u78, u79, u80, u81, u82, u83, u84, u85, u86, u87, u88, u89, u90, u91, u92, u93, u94, u95, u96, u97, u98, u99, u100, u101, u102, u103, u104, u105, u106, u107, u108, u109, u110, u111, u112, u113, u114, u115, u116, u117, u118, u119, u120, u121, u122, u123, u124, u125, u126, u127, u128, u129, u130, u131, u132, u133, u134, u135, u136, u137, u138, u139, u140, u141, u142, u143, u144, u145, u146, u147, u148, u149, u150, u151, u152, u153, u154, u155, u156, u157, u158, u159, u160, u161, u162, u163, u164, u165, u166, u167, u168, u169, u170, u171, u172, u173, u174, u175, u176, u177, u178, u179, u180, u181, u182, u183, u184, u185, u186, u187, u188, u189, u190, u191, u192, u193, u194, u195, u196, u197, u198, u199, u200, u201, u202, u203, u204, u205, u206, u207, u208, u209, u210, u211, u212, u213, u214, u215, u216, u217, u218, u219, u220, u221, u222, u223, u224, u225, u226, u227, u228, u229, u230, u231, u232, u233, u234, u235, u236, u237, u238, u239, u240, u241, u242, u243, u244, u245, u246, u247, u248, u249, u250, u251, u252, u253, u254, u255, u256, u257, u258, u259, u260, u261, u262, u263, u264, u265, u266, u267, u268, u269, u270, u271, u272, u273, u274, u275, u276, u277, u278, u279, u280, u281, u282, u283, c284, c285], []⟩ wr := by
 obtain ⟨hL, hg, hcap, hlen, hL2, DD⟩ := X
 have HD := Lib.hid DD
 obtain ⟨F6a, F6b, F7a, F7b⟩ := DD.far
 have hab := DD.dab
 have hab' := DD.dab.symm
 clear DD
 have hLp : (1 : Int) ≤ L := by omega
 have hcapp : (L : Int) ≤ cap := by omega
 have hc2 : (2 : Int) ≤ cap := by omega
 simp only [List.length_cons] at hqk hqg
 have hkL : (k : Int) < L - 1 := by omega
 have hkL' : ¬ ((L : Int) - 1 ≤ k) := by omega
 obtain ⟨hi0, hi1⟩ := HACC.out.2 0 i rfl
 have HACC1 := Lib.hid HACC.out.tail
 have hi2 := (ST.out.old.cell (p := ⟨g, k + 1 + 0, none⟩) hg).trans hi0
 rw [Nat.add_zero, Nat.add_comm] at hi2
 have gl := Nat.lt_of_lt_of_le hg ST.out.old.size
 clear hi0 HACC
 have H_hin := Lib.hid hin
 clear hin
 have H_h0 := Lib.hid h0
 clear h0
 have H_hnC := Lib.hid hnC
 clear hnC
 have RA : Hid (Rep wr Nowhere pa (.comp un nm sz n pn py xa xb)) := Lib.hid (ST.out.ta.old ST.out.old)
 have TA : Hid (Rep W Nowhere pa (.comp un nm sz n pn py xa xb)) := Lib.hid ST.out.ta
 have TB : Hid (Rep W Nowhere pb tb) := Lib.hid ST.out.tb
 have hcm := composite_any RA.out
 have pal := RA.out.lt
 rw [isC_comp] at hcm
 obtain ⟨pv, pxs, pc, hblk, hown, hrow, hrep⟩ := TA.out.comp_inv
 obtain ⟨sa, scap, rfl⟩ := own_slice hown
 obtain ⟨_, _, _, _, _, c5W⟩ := hblk.six
 have HC5 := Lib.hid (fun (W' : World) (hW : Below W.heap.size W W') => (hW.cell (p := ⟨pa, 5, none⟩) hblk.lt).trans c5W)
 have c5 := HC5.out _ ST.out.old
 clear c5W
 obtain ⟨hsz, hn20, hpp, hyy, haa⟩ := ST.out.oka.parts
 have HO := Lib.hid hown
 have HRW := Lib.hid hrow
 have HRP := Lib.hid hrep
 have HPP := Lib.hid hpp
 have HYY := Lib.hid hyy
 have HAA := Lib.hid haa
 clear hblk hown hrow hrep hpp hyy haa hsz
 obtain ⟨ea0, ea1, ea2, ea3⟩ := ST.out.ba.four
 have xal := ST.out.ba.lt
 conv => arg 2; whnf
 go_wp2_with fail
 refine hcm.mono ?_
 rintro e wB ⟨rfl, rfl⟩
 clear hcm
 have hin := H_hin.out
 have hinI : ¬ (n : Int) ≤ i := by omega
 have hil : i < n := by omega
 obtain ⟨sg, scap', hse, -⟩ := own_form HO.out (by omega)
 simp only [Value.slice.injEq] at hse
 obtain ⟨rfl, -, rfl⟩ := hse
 have HOw := CellsKept.own (CellsKept.below ST.out.old) HO.out
 obtain ⟨q0, q1, q2, q3, q4⟩ := row_cells HOw (HRW.out i hil)
 have lg := (HOw.lt sg rfl).2
 have hxa : xa i ≤ 400000 := Nat.le_trans (HPP.out i hil).1 (by decide)
 have HTJ := Lib.hid (HRP.out i hil)
 have HOJ := Lib.hid (HYY.out i hil)
 clear HOw
 have h0 := H_h0.out
 have x1 := name_full2 h0
 have Hnz := Lib.hid h0
 have Hin := Lib.hid hin
 clear h0 hin
 have HCB := Lib.hid (fun (W' : World) (hW : Below W.heap.size W W') => composite_any (TB.out.old hW))
 obtain ⟨eb0, eb1, eb2, eb3⟩ := ST.out.bb.four
 have xbl := ST.out.bb.lt
 go_wp2_with fail
 obtain ⟨pk, hpk⟩ : ∃ z, z = wB.heap.size := ⟨_, rfl⟩
 obtain ⟨wP, hwP⟩ : ∃ z : World, z = wB.alloc (.cells #[.string (pn i), .pointer (some ⟨pc i, 0, none⟩), .int .i64 (xa i : Nat), .int .i64 (xb i : Nat), .int .i64 0] 56) := ⟨_, rfl⟩
 rw [← hpk, ← hwP]
 have hbP : Below wB.heap.size wB wP := by rw [hwP]; exact (Below.refl _ _).alloc (Nat.le_refl _) _
 have hpb : Blk wP pk #[.string (pn i), .pointer (some ⟨pc i, 0, none⟩), .int .i64 (xa i : Nat), .int .i64 (xb i : Nat), .int .i64 0] 56 := by rw [hwP, hpk]; exact Blk.new _ _ _
 have hpkw : wB.heap.size = pk := hpk.symm
 have STP := Lib.hid (ST.out.below hbP (Nat.le_refl _))
 have HPB := Lib.hid hpb
 have hcb := HCB.out wP STP.out.old
 have HLL : Hid (ra < pk ∧ rb < pk) := Lib.hid ⟨by have := ST.out.ba.lt; omega, by have := ST.out.bb.lt; omega⟩
 clear ea0 ea1 ea2 ea3 eb0 eb1 eb2 eb3 xbl q0 q1 q2 q3 q4 xal hwP x1 hpk hbP hpb hpkw
 have gl := Nat.lt_of_lt_of_le hg STP.out.old.size
 have hnC := H_hnC.out
 rw [hnC] at hcb
 have HRES : Hid (R = (⟨.comp un nm sz n pn py xa xb, ao, ab, af, tb, bo, bbi, bf⟩, .poison)) := Lib.hid (HRR.out.trans (fieldGo_stop (by
  unfold stepF
  simp only [if_neg Hin.out, if_neg Hnz.out]
  cases tb with
  | comp un2 nm2 sz2 n2 pn2 py2 xa2 xb2 => rw [isC_comp] at hnC; cases hnC
  | _ => rfl)))
 clear hnC HPB ST
 obtain ⟨ST, hST⟩ : ∃ z, z = STP := ⟨_, rfl⟩
 clear hST STP
 obtain ⟨eb0, eb1, eb2, eb3⟩ := ST.out.bb.four
 have xbl := ST.out.bb.lt
 refine hcb.mono ?_
 rintro e w5 ⟨rfl, rfl⟩
 clear hcb
 go_upto_region 19 with fail
 clear eb0 eb1 eb2 eb3 xbl
 obtain ⟨ea0, ea1, ea2, ea3⟩ := ST.out.ba.four
 obtain ⟨eb0, eb1, eb2, eb3⟩ := ST.out.bb.four
 have k60 := ST.out.b6.free 0
 have k61 := ST.out.b6.free 1
 have k62 := ST.out.b6.free 2
 have k63 := ST.out.b6.free 3
 have k70 := ST.out.b7.free 0
 have k71 := ST.out.b7.free 1
 have k72 := ST.out.b7.free 2
 have k73 := ST.out.b7.free 3
 have k6l := ST.out.b6.lt
 have k7l := ST.out.b7.lt
 obtain ⟨z60, z61, z62, z63⟩ := ST.out.b6.four
 obtain ⟨z70, z71, z72, z73⟩ := ST.out.b7.four
 have xal := ST.out.ba.lt
 have xbl := ST.out.bb.lt
 have d67 := HD.out.d67
 have d76 := HD.out.d67.symm
 have f6a := F6a.out
 have f6b := F6b.out
 have f7a := F7a.out
 have f7b := F7b.out
 apply wp_meet0 (fun w' => Hid (FEnd W z6 z7 pa ao ab af pb bo bbi bf w'))
 case h1 =>
  refine AnyR.start (wr := [3, 2]) (rd := (fun cls => match cls with | 0 => [0, 1] | 1 => [4] | _ + 2 => [])) (Sf := (fun cls w' => match cls with | 0 => w'.cell? ⟨ra, 0, none⟩ = some (.pointer (some ⟨pa, 0, none⟩)) ∧ w'.cell? ⟨ra, 1, none⟩ = some (.int .i64 (ao : Nat)) ∧ w'.cell? ⟨ra, 2, none⟩ = some (.int .i64 (ab : Nat)) ∧ w'.cell? ⟨ra, 3, none⟩ = some (.int .i64 (af : Nat)) ∧ w'.cell? ⟨rb, 0, none⟩ = some (.pointer (some ⟨pb, 0, none⟩)) ∧ w'.cell? ⟨rb, 1, none⟩ = some (.int .i64 (bo : Nat)) ∧ w'.cell? ⟨rb, 2, none⟩ = some (.int .i64 (bbi : Nat)) ∧ w'.cell? ⟨rb, 3, none⟩ = some (.int .i64 (bf : Nat)) | 1 => True | _ + 2 => True)) (by as_aux_lemma => kernel_rfl) (fun cls => match cls with | 0 => ⟨ea0, ea1, ea2, ea3, eb0, eb1, eb2, eb3⟩ | 1 => trivial | _ + 2 => trivial) (fun hHeld => ?_)
  refine AnyR.tk (i := 0) 0 (v := ?_) rfl (by as_aux_lemma => kernel_rfl) (fun _ _ _ h => h) hHeld (by rfl) ?_ ?_
  rotate_left
  focus (intro w hSw0; have hSw : (fun w' : World => w'.cell? ⟨ra, 0, none⟩ = some (.pointer (some ⟨pa, 0, none⟩)) ∧ w'.cell? ⟨ra, 1, none⟩ = some (.int .i64 (ao : Nat)) ∧ w'.cell? ⟨ra, 2, none⟩ = some (.int .i64 (ab : Nat)) ∧ w'.cell? ⟨ra, 3, none⟩ = some (.int .i64 (af : Nat)) ∧ w'.cell? ⟨rb, 0, none⟩ = some (.pointer (some ⟨pb, 0, none⟩)) ∧ w'.cell? ⟨rb, 1, none⟩ = some (.int .i64 (bo : Nat)) ∧ w'.cell? ⟨rb, 2, none⟩ = some (.int .i64 (bbi : Nat)) ∧ w'.cell? ⟨rb, 3, none⟩ = some (.int .i64 (bf : Nat))) w := hSw0; clear hSw0; (try dsimp only at hSw); go_simp <;> with_reducible rfl)
  clear hHeld
  intro hHeld
  try simp only [Act.put, zl1, zl2, zl3, zl4, zl5, zl6]
  refine AnyR.tk (i := 1) 0 (v := ?_) rfl (by as_aux_lemma => kernel_rfl) (fun _ _ _ h => h) hHeld (by rfl) ?_ ?_
  rotate_left
  focus (intro w hSw0; have hSw : (fun w' : World => w'.cell? ⟨ra, 0, none⟩ = some (.pointer (some ⟨pa, 0, none⟩)) ∧ w'.cell? ⟨ra, 1, none⟩ = some (.int .i64 (ao : Nat)) ∧ w'.cell? ⟨ra, 2, none⟩ = some (.int .i64 (ab : Nat)) ∧ w'.cell? ⟨ra, 3, none⟩ = some (.int .i64 (af : Nat)) ∧ w'.cell? ⟨rb, 0, none⟩ = some (.pointer (some ⟨pb, 0, none⟩)) ∧ w'.cell? ⟨rb, 1, none⟩ = some (.int .i64 (bo : Nat)) ∧ w'.cell? ⟨rb, 2, none⟩ = some (.int .i64 (bbi : Nat)) ∧ w'.cell? ⟨rb, 3, none⟩ = some (.int .i64 (bf : Nat))) w := hSw0; clear hSw0; (try dsimp only at hSw); go_simp <;> with_reducible rfl)
  clear hHeld
  intro hHeld
  try simp only [Act.put, zl1, zl2, zl3, zl4, zl5, zl6]
  refine AnyR.one (i := 2) (by as_aux_lemma => kernel_rfl) rfl (fun K hK => ?_)
  go_simp
  refine hK.out _ _ (fun cls => match cls with | 0 => .inr (by simp only [World.cell?_drew, f6a, f6b, f7a, f7b, ea0, ea1, ea2, ea3, eb0, eb1, eb2, eb3, and_self]) | 1 => .inr trivial | _ + 2 => .inr trivial) (fun hHeld => ?_)
  clear hK K
  try simp only [Act.put, zl1, zl2, zl3, zl4, zl5, zl6]
  refine AnyR.one (i := 3) (by as_aux_lemma => kernel_rfl) rfl (fun K hK => ?_)
  go_simp
  refine hK.out _ _ (fun cls => match cls with | 0 => .inr (by simp only [World.cell?_drew, f6a, f6b, f7a, f7b, ea0, ea1, ea2, ea3, eb0, eb1, eb2, eb3, and_self]) | 1 => .inr trivial | _ + 2 => .inr trivial) (fun hHeld => ?_)
  clear hK K
  try simp only [Act.put, zl1, zl2, zl3, zl4, zl5, zl6]
  refine AnyR.tk (i := 4) 1 (v := ?_) rfl (by as_aux_lemma => kernel_rfl) (fun _ _ _ h => h) hHeld (by rfl) ?_ ?_
  rotate_left
  focus (intro w h; clear h; go_simp <;> with_reducible rfl)
  clear hHeld
  intro hHeld
  try simp only [Act.put, zl1, zl2, zl3, zl4, zl5, zl6]
  refine AnyR.end_ (by as_aux_lemma => kernel_rfl) ?_
  exact ⟨Lib.hid (ST.out.fend HD.out), rfl⟩
 case h2 =>
  intro w4 FE
  clear ea0 ea1 ea2 ea3 eb0 eb1 eb2 eb3 k60 k61 k62 k63 k70 k71 k72 k73 k6l k7l z60 z61 z62 z63 z70 z71 z72 z73 xal xbl d67 d76 f6a f6b f7a f7b
  obtain ⟨y0, y1, y2, y3⟩ := FE.out.b6.four
  obtain ⟨x0, x1, x2, x3⟩ := FE.out.b7.four
  have yl := FE.out.b6.lt
  have xl := FE.out.b7.lt
  go_wp2_with fail
  refine bodyPost_ret (v := .tuple #[fldV pa ao ab af, fldV pb bo bbi bf, .int .i64 1]) ?_ rfl ⟨pa, pb, by rw [HRES.out]; rfl, by rw [HRES.out]; exact ST.out.ta, by rw [HRES.out]; exact ST.out.tb, by rw [HRES.out]; exact ST.out.oka, by rw [HRES.out]; exact ST.out.okb, FE.out.old⟩
  rw [results_cct rfl]
  unfold fldV
  go_simp
end
end Go.Proofs.YtfilbgmbmlmdbaaGreatDoor
