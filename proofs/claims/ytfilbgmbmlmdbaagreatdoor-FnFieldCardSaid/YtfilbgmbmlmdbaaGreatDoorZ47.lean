/- The search for a field by an accessor: leaves of a round. Nothing is claimed here. -/
import Derived.Test.YtfilbgmbmlmdbaaGreatDoorZ16
set_option linter.unusedSimpArgs false
set_option linter.unusedVariables false
set_option maxRecDepth 1000000
set_option maxHeartbeats 16000000
namespace Go.Proofs.YtfilbgmbmlmdbaaGreatDoor
open Go.RowKit Go.MapKept
section
variable {c0 c2 c3 c4 c5 c20 c21 c22 c23 c24 c25 c26 c27 c28 c29 c30 c31 c32 c33 c34 c35 c36 c37 c38 c39 c40 c41 c42 c43 c44 c284 c285 u8 u13 u14 u15 u16 u17 u18 u19 u48 u49 u50 u51 u52 u53 u54 u55 u56 u57 u58 u59 u60 u61 u62 u63 u64 u65 u66 u67 u68 u69 u70 u71 u72 u73 u74 u75 u76 u77 u78 u79 u80 u81 u82 u83 u84 u85 u86 u87 u88 u89 u90 u91 u92 u93 u94 u95 u96 u97 u98 u99 u100 u101 u102 u103 u104 u105 u106 u107 u108 u109 u110 u111 u112 u113 u114 u115 u116 u117 u118 u119 u120 u121 u122 u123 u124 u125 u126 u127 u128 u129 u130 u131 u132 u133 u134 u135 u136 u137 u138 u139 u140 u141 u142 u143 u144 u145 u146 u147 u148 u149 u150 u151 u152 u153 u154 u155 u156 u157 u158 u159 u160 u161 u162 u163 u164 u165 u166 u167 u168 u169 u170 u171 u172 u173 u174 u175 u176 u177 u178 u179 u180 u181 u182 u183 u184 u185 u186 u187 u188 u189 u190 u191 u192 u193 u194 u195 u196 u197 u198 u199 u200 u201 u202 u203 u204 u205 u206 u207 u208 u209 u210 u211 u212 u213 u214 u215 u216 u217 u218 u219 u220 u221 u222 u223 u224 u225 u226 u227 u228 u229 u230 u231 u232 u233 u234 u235 u236 u237 u238 u239 u240 u241 u242 u243 u244 u245 u246 u247 u248 u249 u250 u251 u252 u253 u254 u255 u256 u257 u258 u259 u260 u261 u262 u263 u264 u265 u266 u267 u268 u269 u270 u271 u272 u273 u274 u275 u276 u277 u278 u279 u280 u281 u282 u283 : Value}
theorem fld_22 {W wr : World} {g L cap z6 z7 ra rb plen pa pb k i gk : Nat} {rest : List Nat} {oa ob : Bool} {R : FS × Out} {J : Nat → Act → World → Prop} {K K6 : Act → World → Prop}
  {un un2 : Bool} {nm nm2 : ByteArray} {sz n sz2 n2 : Nat} {pn pn2 : Nat → ByteArray} {py py2 : Nat → Ty} {xa xb xa2 xb2 : Nat → Nat} {ao ab af bo bbi bf : Nat} (hin : ¬ n ≤ i) (h0 : ¬ (pn i).size = 0) (hfp : findP (pn i) (.comp un2 nm2 sz2 n2 pn2 py2 xa2 xb2) = none)
  (X : FCtx W g L cap z6 z7 ra rb plen) (hqk : (i :: rest).length + k = plen) (hqg : (i :: rest).length ≤ gk) (HACC : Hid (Acc W g L (i :: rest) (k + 1))) (ST : Hid (FSt W z6 z7 ra rb pa pb (60000000 + k * 100000) ⟨.comp un nm sz n pn py xa xb, ao, ab, af, (.comp un2 nm2 sz2 n2 pn2 py2 xa2 xb2), bo, bbi, bf⟩ wr)) (HRR : Hid (R = fieldGo (i :: rest) ⟨.comp un nm sz n pn py xa xb, ao, ab, af, (.comp un2 nm2 sz2 n2 pn2 py2 xa2 xb2), bo, bbi, bf⟩))
  (hJ : ∀ k' a' w', FInv W g L cap z6 z7 ra rb plen R c0 c2 c3 c4 c5 c20 c21 c22 c23 c24 c25 c26 c27 c28 c29 c30 c31 c32 c33 c34 c35 c36 c37 c38 c39 c40 c41 c42 c43 c44 c284 c285 k' a' w' → J k' a' w') (hK : ∀ a' w', Handed J gk a' w' → K a' w') :
  Code.wp Tryz.prog fldBody (Exit.then K (Exit.inBlock 0 (Exit.then K6 (bodyPost Tryz.prog Tryz.f11 (FRes W R))))) ⟨#[c0, .slice (some ⟨g, 0, none⟩) L cap, c2, c3, c4, c5, .pointer (some ⟨z6, 0, none⟩), .pointer (some ⟨z7, 0, none⟩), u8, .pointer (some ⟨ra, 0, none⟩), .pointer (some ⟨rb, 0, none⟩), .bool oa, .bool ob, u13, u14, u15, u16, u17, u18, u19, c20, c21, c22, c23, c24, c25, c26, c27, c28, c29, c30, c31, c32, c33, c34, c35, c36, c37, c38, c39, c40, c41, c42, c43, c44, .slice (some ⟨g, 1, none⟩) (L - 1) (cap - 1), .int .i64 ((L - 1 : Nat) : Int), .int .i64 (k : Int), u48, u49, u50, u51, u52, u53, u54, u55, u56, u57, u58, u59, u60, u61, u62, u63, u64, u65, u66, u67, u68, u69, u70, u71, u72, u73, u74, u75, u76, u77, u78, u79, u80, u81, u82, u83, u84, u85, u86, u87, u88, u89, u90, u91, u92, u93, u94, u95, u96, u97, u98, u99, u100, u101, u102, u103, u104, u105, u106, u107, u108, u109, u110, u111, u112, u113, u114, u115, u116, u117, u118, u119, u120, u121, u122, u123, u124, u125, u126, u127, u128, u129, u130, u131, u132, u133, u134, u135, u136, u137, u138, u139, u140, u141, u142, u143, u144, u145, u146, u147, u148, u149, u150, u151, u152, u153, u154, u155, u156, u157, u158, u159, u160, u161, u162, u163, u164, u165, u166, u167, u168, u169, u170, u171, u172, u173, u174, u175, u176, u177, u178, u179, u180, u181, u182, u183, u184, u185, u186, u187, u188, u189, u190, u191, u192, u193, u194, u195, u196, u197, u198, u199, u200, u201, u202, u203, u204, u205, u206, u207, u208, u209, u210, u211, u212, u213, u214, u215, u216, u217, u218, u219, u220, u221, u222, u223, u224, u225, u226, u227, u228, u229, u230, u231, u232, u233, u234, u235, u236, u237, u238, u239, u240, u241, u242, u243, u244, u245, u246, u247, u248, u249, u250, u251, u252, u253, u254, u255, u256, u257, u258, u259, u260, u261, u262, u263, u264, u265, u266, u267, u268, u269, u270, u271, u272, u273, u274, u275, u276, u277, u278, u279, u280, u281, u282, u283, c284, c285], []⟩ wr := by
 obtain ⟨hL, hg, hcap, hlen, hL2, DD⟩ := X
 have HD := Lib.hid DD
 obtain ⟨F6a, F6b, F7a, F7b⟩ := DD.far
 have hab := DD.dab
 have hab' := DD.dab.symm
 clear DD
 have hLp : (1 : Int) ≤ L := by omega
 have hcapp : (L : Int) ≤ cap := by omega
 have hc2 : (2 : Int) ≤ cap := by omega
 simp only [List.length_cons] at hqk hqg
 have hkL : (k : Int) < L - 1 := by omega
 have hkL' : ¬ ((L : Int) - 1 ≤ k) := by omega
 obtain ⟨hi0, hi1⟩ := HACC.out.2 0 i rfl
 have HACC1 := Lib.hid HACC.out.tail
 have hi2 := (ST.out.old.cell (p := ⟨g, k + 1 + 0, none⟩) hg).trans hi0
 rw [Nat.add_zero, Nat.add_comm] at hi2
 have gl := Nat.lt_of_lt_of_le hg ST.out.old.size
 clear hi0 HACC
 have H_hin := Lib.hid hin
 clear hin
 have H_h0 := Lib.hid h0
 clear h0
 have H_hfp := Lib.hid hfp
 clear hfp
 have RA : Hid (Rep wr Nowhere pa (.comp un nm sz n pn py xa xb)) := Lib.hid (ST.out.ta.old ST.out.old)
 have TA : Hid (Rep W Nowhere pa (.comp un nm sz n pn py xa xb)) := Lib.hid ST.out.ta
 have TB : Hid (Rep W Nowhere pb (.comp un2 nm2 sz2 n2 pn2 py2 xa2 xb2)) := Lib.hid ST.out.tb
 have hcm := composite_any RA.out
 have pal := RA.out.lt
 rw [isC_comp] at hcm
 obtain ⟨pv, pxs, pc, hblk, hown, hrow, hrep⟩ := TA.out.comp_inv
 obtain ⟨sa, scap, rfl⟩ := own_slice hown
 obtain ⟨_, _, _, _, _, c5W⟩ := hblk.six
 have HC5 := Lib.hid (fun (W' : World) (hW : Below W.heap.size W W') => (hW.cell (p := ⟨pa, 5, none⟩) hblk.lt).trans c5W)
 have c5 := HC5.out _ ST.out.old
 clear c5W
 obtain ⟨hsz, hn20, hpp, hyy, haa⟩ := ST.out.oka.parts
 have HO := Lib.hid hown
 have HRW := Lib.hid hrow
 have HRP := Lib.hid hrep
 have HPP := Lib.hid hpp
 have HYY := Lib.hid hyy
 have HAA := Lib.hid haa
 clear hblk hown hrow hrep hpp hyy haa hsz
 obtain ⟨ea0, ea1, ea2, ea3⟩ := ST.out.ba.four
 have xal := ST.out.ba.lt
 conv => arg 2; whnf
 go_wp2_with fail
 refine hcm.mono ?_
 rintro e wB ⟨rfl, rfl⟩
 clear hcm
 have hin := H_hin.out
 have hinI : ¬ (n : Int) ≤ i := by omega
 have hil : i < n := by omega
 obtain ⟨sg, scap', hse, -⟩ := own_form HO.out (by omega)
 simp only [Value.slice.injEq] at hse
 obtain ⟨rfl, -, rfl⟩ := hse
 have HOw := CellsKept.own (CellsKept.below ST.out.old) HO.out
 obtain ⟨q0, q1, q2, q3, q4⟩ := row_cells HOw (HRW.out i hil)
 have lg := (HOw.lt sg rfl).2
 have hxa : xa i ≤ 400000 := Nat.le_trans (HPP.out i hil).1 (by decide)
 have HTJ := Lib.hid (HRP.out i hil)
 have HOJ := Lib.hid (HYY.out i hil)
 clear HOw
 have h0 := H_h0.out
 have x1 := name_full2 h0
 have Hnz := Lib.hid h0
 have Hin := Lib.hid hin
 clear h0 hin
 have HCB := Lib.hid (fun (W' : World) (hW : Below W.heap.size W W') => composite_any (TB.out.old hW))
 obtain ⟨eb0, eb1, eb2, eb3⟩ := ST.out.bb.four
 have xbl := ST.out.bb.lt
 go_wp2_with fail
 obtain ⟨pk, hpk⟩ : ∃ z, z = wB.heap.size := ⟨_, rfl⟩
 obtain ⟨wP, hwP⟩ : ∃ z : World, z = wB.alloc (.cells #[.string (pn i), .pointer (some ⟨pc i, 0, none⟩), .int .i64 (xa i : Nat), .int .i64 (xb i : Nat), .int .i64 0] 56) := ⟨_, rfl⟩
 rw [← hpk, ← hwP]
 have hbP : Below wB.heap.size wB wP := by rw [hwP]; exact (Below.refl _ _).alloc (Nat.le_refl _) _
 have hpb : Blk wP pk #[.string (pn i), .pointer (some ⟨pc i, 0, none⟩), .int .i64 (xa i : Nat), .int .i64 (xb i : Nat), .int .i64 0] 56 := by rw [hwP, hpk]; exact Blk.new _ _ _
 have hpkw : wB.heap.size = pk := hpk.symm
 have STP := Lib.hid (ST.out.below hbP (Nat.le_refl _))
 have HPB := Lib.hid hpb
 have hcb := HCB.out wP STP.out.old
 have HLL : Hid (ra < pk ∧ rb < pk) := Lib.hid ⟨by have := ST.out.ba.lt; omega, by have := ST.out.bb.lt; omega⟩
 clear ea0 ea1 ea2 ea3 eb0 eb1 eb2 eb3 xbl q0 q1 q2 q3 q4 xal hwP x1 hpk hbP hpb hpkw
 have gl := Nat.lt_of_lt_of_le hg STP.out.old.size
 rw [isC_comp] at hcb
 refine hcb.mono ?_
 rintro e w5 ⟨rfl, rfl⟩
 obtain ⟨wP, rfl⟩ : ∃ z : World, z = w5 := ⟨_, rfl⟩
 clear hcb
 obtain ⟨p0, p1, p2, p3, p4⟩ := HPB.out.five
 obtain ⟨eb0, eb1, eb2, eb3⟩ := STP.out.bb.four
 have xbl := STP.out.bb.lt
 have pl := HPB.out.lt
 have HPN := Lib.hid (partNamed_any (nm := pn i) (TB.out.fresh STP.out.old) STP.out.okb.shp)
 go_wp2_with fail
 refine HPN.out.mono ?_
 rintro e w6 ⟨hnd, hb6⟩
 clear HPN p0 p1 p2 p3 p4 eb0 eb1 eb2 eb3 xbl pl
 have ST6 := Lib.hid (STP.out.below hb6 (Nat.le_refl _))
 have HPB6 := Lib.hid (HPB.out.old hb6)
 have STP6 := Lib.hid STP.out.old
 clear STP HPB
 have hfp := H_hfp.out
 rw [hfp] at hnd
 obtain rfl := hnd
 have HRES : Hid (R = (⟨.comp un nm sz n pn py xa xb, ao, ab, af, (.comp un2 nm2 sz2 n2 pn2 py2 xa2 xb2), bo, bbi, bf⟩, .poison)) := Lib.hid (HRR.out.trans (fieldGo_stop (by unfold stepF; simp only [if_neg Hin.out, if_neg Hnz.out, hfp])))
 clear hfp hb6
 have STQ := Lib.hid (ST6.out.below ((Below.refl _ _).alloc (Nat.le_refl _) (.cells #[.string ⟨#[]⟩, .pointer none, .int .i64 0, .int .i64 0, .int .i64 0] 56)) (Nat.le_refl _))
 go_upto_region 22 with fail
 obtain ⟨wQ, hwQ⟩ : ∃ z : World, z = w6.alloc (.cells #[.string ⟨#[]⟩, .pointer none, .int .i64 0, .int .i64 0, .int .i64 0] 56) := ⟨_, rfl⟩
 rw [← hwQ] at STQ ⊢
 clear hwQ ST6
 obtain ⟨ea0, ea1, ea2, ea3⟩ := STQ.out.ba.four
 obtain ⟨eb0, eb1, eb2, eb3⟩ := STQ.out.bb.four
 have k60 := STQ.out.b6.free 0
 have k61 := STQ.out.b6.free 1
 have k62 := STQ.out.b6.free 2
 have k63 := STQ.out.b6.free 3
 have k70 := STQ.out.b7.free 0
 have k71 := STQ.out.b7.free 1
 have k72 := STQ.out.b7.free 2
 have k73 := STQ.out.b7.free 3
 have k6l := STQ.out.b6.lt
 have k7l := STQ.out.b7.lt
 obtain ⟨z60, z61, z62, z63⟩ := STQ.out.b6.four
 obtain ⟨z70, z71, z72, z73⟩ := STQ.out.b7.four
 have xal := STQ.out.ba.lt
 have xbl := STQ.out.bb.lt
 have d67 := HD.out.d67
 have d76 := HD.out.d67.symm
 have f6a := F6a.out
 have f6b := F6b.out
 have f7a := F7a.out
 have f7b := F7b.out
 apply wp_meet0 (fun w' => Hid (FEnd W z6 z7 pa ao ab af pb bo bbi bf w'))
 case h1 =>
  refine AnyR.start (wr := [3, 2]) (rd := (fun cls => match cls with | 0 => [0, 1] | 1 => [4] | _ + 2 => [])) (Sf := (fun cls w' => match cls with | 0 => w'.cell? ⟨ra, 0, none⟩ = some (.pointer (some ⟨pa, 0, none⟩)) ∧ w'.cell? ⟨ra, 1, none⟩ = some (.int .i64 (ao : Nat)) ∧ w'.cell? ⟨ra, 2, none⟩ = some (.int .i64 (ab : Nat)) ∧ w'.cell? ⟨ra, 3, none⟩ = some (.int .i64 (af : Nat)) ∧ w'.cell? ⟨rb, 0, none⟩ = some (.pointer (some ⟨pb, 0, none⟩)) ∧ w'.cell? ⟨rb, 1, none⟩ = some (.int .i64 (bo : Nat)) ∧ w'.cell? ⟨rb, 2, none⟩ = some (.int .i64 (bbi : Nat)) ∧ w'.cell? ⟨rb, 3, none⟩ = some (.int .i64 (bf : Nat)) | 1 => True | _ + 2 => True)) (by as_aux_lemma => kernel_rfl) (fun cls => match cls with | 0 => ⟨ea0, ea1, ea2, ea3, eb0, eb1, eb2, eb3⟩ | 1 => trivial | _ + 2 => trivial) (fun hHeld => ?_)
  refine AnyR.tk (i := 0) 0 (v := ?_) rfl (by as_aux_lemma => kernel_rfl) (fun _ _ _ h => h) hHeld (by rfl) ?_ ?_
  rotate_left
  focus (intro w hSw0; have hSw : (fun w' : World => w'.cell? ⟨ra, 0, none⟩ = some (.pointer (some ⟨pa, 0, none⟩)) ∧ w'.cell? ⟨ra, 1, none⟩ = some (.int .i64 (ao : Nat)) ∧ w'.cell? ⟨ra, 2, none⟩ = some (.int .i64 (ab : Nat)) ∧ w'.cell? ⟨ra, 3, none⟩ = some (.int .i64 (af : Nat)) ∧ w'.cell? ⟨rb, 0, none⟩ = some (.pointer (some ⟨pb, 0, none⟩)) ∧ w'.cell? ⟨rb, 1, none⟩ = some (.int .i64 (bo : Nat)) ∧ w'.cell? ⟨rb, 2, none⟩ = some (.int .i64 (bbi : Nat)) ∧ w'.cell? ⟨rb, 3, none⟩ = some (.int .i64 (bf : Nat))) w := hSw0; clear hSw0; (try dsimp only at hSw); go_simp <;> with_reducible rfl)
  clear hHeld
  intro hHeld
  try simp only [Act.put, zl1, zl2, zl3, zl4, zl5, zl6]
  refine AnyR.tk (i := 1) 0 (v := ?_) rfl (by as_aux_lemma => kernel_rfl) (fun _ _ _ h => h) hHeld (by rfl) ?_ ?_
  rotate_left
  focus (intro w hSw0; have hSw : (fun w' : World => w'.cell? ⟨ra, 0, none⟩ = some (.pointer (some ⟨pa, 0, none⟩)) ∧ w'.cell? ⟨ra, 1, none⟩ = some (.int .i64 (ao : Nat)) ∧ w'.cell? ⟨ra, 2, none⟩ = some (.int .i64 (ab : Nat)) ∧ w'.cell? ⟨ra, 3, none⟩ = some (.int .i64 (af : Nat)) ∧ w'.cell? ⟨rb, 0, none⟩ = some (.pointer (some ⟨pb, 0, none⟩)) ∧ w'.cell? ⟨rb, 1, none⟩ = some (.int .i64 (bo : Nat)) ∧ w'.cell? ⟨rb, 2, none⟩ = some (.int .i64 (bbi : Nat)) ∧ w'.cell? ⟨rb, 3, none⟩ = some (.int .i64 (bf : Nat))) w := hSw0; clear hSw0; (try dsimp only at hSw); go_simp <;> with_reducible rfl)
  clear hHeld
  intro hHeld
  try simp only [Act.put, zl1, zl2, zl3, zl4, zl5, zl6]
  refine AnyR.one (i := 2) (by as_aux_lemma => kernel_rfl) rfl (fun K hK => ?_)
  go_simp
  refine hK.out _ _ (fun cls => match cls with | 0 => .inr (by simp only [World.cell?_drew, f6a, f6b, f7a, f7b, ea0, ea1, ea2, ea3, eb0, eb1, eb2, eb3, and_self]) | 1 => .inr trivial | _ + 2 => .inr trivial) (fun hHeld => ?_)
  clear hK K
  try simp only [Act.put, zl1, zl2, zl3, zl4, zl5, zl6]
  refine AnyR.one (i := 3) (by as_aux_lemma => kernel_rfl) rfl (fun K hK => ?_)
  go_simp
  refine hK.out _ _ (fun cls => match cls with | 0 => .inr (by simp only [World.cell?_drew, f6a, f6b, f7a, f7b, ea0, ea1, ea2, ea3, eb0, eb1, eb2, eb3, and_self]) | 1 => .inr trivial | _ + 2 => .inr trivial) (fun hHeld => ?_)
  clear hK K
  try simp only [Act.put, zl1, zl2, zl3, zl4, zl5, zl6]
  refine AnyR.tk (i := 4) 1 (v := ?_) rfl (by as_aux_lemma => kernel_rfl) (fun _ _ _ h => h) hHeld (by rfl) ?_ ?_
  rotate_left
  focus (intro w h; clear h; go_simp <;> with_reducible rfl)
  clear hHeld
  intro hHeld
  try simp only [Act.put, zl1, zl2, zl3, zl4, zl5, zl6]
  refine AnyR.end_ (by as_aux_lemma => kernel_rfl) ?_
  exact ⟨Lib.hid (STQ.out.fend HD.out), rfl⟩
 case h2 =>
  intro w4 FE
  clear ea0 ea1 ea2 ea3 eb0 eb1 eb2 eb3 k60 k61 k62 k63 k70 k71 k72 k73 k6l k7l z60 z61 z62 z63 z70 z71 z72 z73 xal xbl d67 d76 f6a f6b f7a f7b
  obtain ⟨y0, y1, y2, y3⟩ := FE.out.b6.four
  obtain ⟨x0, x1, x2, x3⟩ := FE.out.b7.four
  have yl := FE.out.b6.lt
  have xl := FE.out.b7.lt
  go_wp2_with fail
  refine bodyPost_ret (v := .tuple #[fldV pa ao ab af, fldV pb bo bbi bf, .int .i64 1]) ?_ rfl ⟨pa, pb, by rw [HRES.out]; rfl, by rw [HRES.out]; exact STQ.out.ta, by rw [HRES.out]; exact STQ.out.tb, by rw [HRES.out]; exact STQ.out.oka, by rw [HRES.out]; exact STQ.out.okb, FE.out.old⟩
  rw [results_cct rfl]
  unfold fldV
  go_simp
theorem fld_27 {W wr : World} {g L cap z6 z7 ra rb plen pa pb k i gk : Nat} {rest : List Nat} {oa ob : Bool} {R : FS × Out} {J : Nat → Act → World → Prop} {K K6 : Act → World → Prop}
  {un un2 : Bool} {nm nm2 : ByteArray} {sz n sz2 n2 : Nat} {pn pn2 : Nat → ByteArray} {py py2 : Nat → Ty} {xa xb xa2 xb2 : Nat → Nat} {ao ab af bo bbi bf : Nat} {h : Hit} (hin : ¬ n ≤ i) (h0 : ¬ (pn i).size = 0) (hfp : findP (pn i) (.comp un2 nm2 sz2 n2 pn2 py2 xa2 xb2) = some h) (hbb : ¬ (xb i = 0 ∧ h.bits = 0)) (hre : ¬ rest.isEmpty = true)
  (X : FCtx W g L cap z6 z7 ra rb plen) (hqk : (i :: rest).length + k = plen) (hqg : (i :: rest).length ≤ gk) (HACC : Hid (Acc W g L (i :: rest) (k + 1))) (ST : Hid (FSt W z6 z7 ra rb pa pb (60000000 + k * 100000) ⟨.comp un nm sz n pn py xa xb, ao, ab, af, (.comp un2 nm2 sz2 n2 pn2 py2 xa2 xb2), bo, bbi, bf⟩ wr)) (HRR : Hid (R = fieldGo (i :: rest) ⟨.comp un nm sz n pn py xa xb, ao, ab, af, (.comp un2 nm2 sz2 n2 pn2 py2 xa2 xb2), bo, bbi, bf⟩))
  (hJ : ∀ k' a' w', FInv W g L cap z6 z7 ra rb plen R c0 c2 c3 c4 c5 c20 c21 c22 c23 c24 c25 c26 c27 c28 c29 c30 c31 c32 c33 c34 c35 c36 c37 c38 c39 c40 c41 c42 c43 c44 c284 c285 k' a' w' → J k' a' w') (hK : ∀ a' w', Handed J gk a' w' → K a' w') :
  Code.wp Tryz.prog fldBody (Exit.then K (Exit.inBlock 0 (Exit.then K6 (bodyPost Tryz.prog Tryz.f11 (FRes W R))))) ⟨#[c0, .slice (some ⟨g, 0, none⟩) L cap, c2, c3, c4, c5, .pointer (some ⟨z6, 0, none⟩), .pointer (some ⟨z7, 0, none⟩), u8, .pointer (some ⟨ra, 0, none⟩), .pointer (some ⟨rb, 0, none⟩), .bool oa, .bool ob, u13, u14, u15, u16, u17, u18, u19, c20, c21, c22, c23, c24, c25, c26, c27, c28, c29, c30, c31, c32, c33, c34, c35, c36, c37, c38, c39, c40, c41, c42, c43, c44, .slice (some ⟨g, 1, none⟩) (L - 1) (cap - 1), .int .i64 ((L - 1 : Nat) : Int), .int .i64 (k : Int), u48, u49, u50, u51, u52, u53, u54, u55, u56, u57, u58, u59, u60, u61, u62, u63, u64, u65, u66, u67, u68, u69, u70, u71, u72, u73, u74, u75, u76, u77, u78, u79, u80, u81, u82, u83, u84, u85, u86, u87, u88, u89, u90, u91, u92, u93, u94, u95, u96, u97, u98, u99, u100, u101, u102, u103, u104, u105, u106, u107, u108, u109, u110, u111, u112, u113, u114, u115, u116, u117, u118, u119, u120, u121, u122, u123, u124, u125, u126, u127, u128, u129, u130, u131, u132, u133, u134, u135, u136, u137, u138, u139, u140, u141, u142, u143, u144, u145, u146, u147, u148, u149, u150, u151, u152, u153, u154, u155, u156, u157, u158, u159, u160, u161, u162, u163, u164, u165, u166, u167, u168, u169, u170, u171, u172, u173, u174, u175, u176, u177, u178, u179, u180, u181, u182, u183, u184, u185, u186, u187, u188, u189, u190, u191, u192, u193, u194, u195, u196, u197, u198, u199, u200, u201, u202, u203, u204, u205, u206, u207, u208, u209, u210, u211, u212, u213, u214, u215, u216, u217, u218, u219, u220, u221, u222, u223, u224, u225, u226, u227, u228, u229, u230, u231, u232, u233, u234, u235, u236, u237, u238, u239, u240, u241, u242, u243, u244, u245, u246, u247, u248, u249, u250, u251, u252, u253, u254, u255, u256, u257, u258, u259, u260, u261, u262, u263, u264, u265, u266, u267, u268, u269, u270, u271, u272, u273, u274, u275, u276, u277, u278, u279, u280, u281, u282, u283, c284, c285], []⟩ wr := by
 obtain ⟨hL, hg, hcap, hlen, hL2, DD⟩ := X
 have HD := Lib.hid DD
 obtain ⟨F6a, F6b, F7a, F7b⟩ := DD.far
 have hab := DD.dab
 have hab' := DD.dab.symm
 clear DD
 have hLp : (1 : Int) ≤ L := by omega
 have hcapp : (L : Int) ≤ cap := by omega
 have hc2 : (2 : Int) ≤ cap := by omega
 simp only [List.length_cons] at hqk hqg
 have hkL : (k : Int) < L - 1 := by omega
 have hkL' : ¬ ((L : Int) - 1 ≤ k) := by omega
 obtain ⟨hi0, hi1⟩ := HACC.out.2 0 i rfl
 have HACC1 := Lib.hid HACC.out.tail
 have hi2 := (ST.out.old.cell (p := ⟨g, k + 1 + 0, none⟩) hg).trans hi0
 rw [Nat.add_zero, Nat.add_comm] at hi2
 have gl := Nat.lt_of_lt_of_le hg ST.out.old.size
 clear hi0 HACC
 have H_hin := Lib.hid hin
 clear hin
 have H_h0 := Lib.hid h0
 clear h0
 have H_hfp := Lib.hid hfp
 clear hfp
 have H_hbb := Lib.hid hbb
 clear hbb
 have H_hre := Lib.hid hre
 clear hre
 have RA : Hid (Rep wr Nowhere pa (.comp un nm sz n pn py xa xb)) := Lib.hid (ST.out.ta.old ST.out.old)
 have TA : Hid (Rep W Nowhere pa (.comp un nm sz n pn py xa xb)) := Lib.hid ST.out.ta
 have TB : Hid (Rep W Nowhere pb (.comp un2 nm2 sz2 n2 pn2 py2 xa2 xb2)) := Lib.hid ST.out.tb
 have hcm := composite_any RA.out
 have pal := RA.out.lt
 rw [isC_comp] at hcm
 obtain ⟨pv, pxs, pc, hblk, hown, hrow, hrep⟩ := TA.out.comp_inv
 obtain ⟨sa, scap, rfl⟩ := own_slice hown
 obtain ⟨_, _, _, _, _, c5W⟩ := hblk.six
 have HC5 := Lib.hid (fun (W' : World) (hW : Below W.heap.size W W') => (hW.cell (p := ⟨pa, 5, none⟩) hblk.lt).trans c5W)
 have c5 := HC5.out _ ST.out.old
 clear c5W
 obtain ⟨hsz, hn20, hpp, hyy, haa⟩ := ST.out.oka.parts
 have HO := Lib.hid hown
 have HRW := Lib.hid hrow
 have HRP := Lib.hid hrep
 have HPP := Lib.hid hpp
 have HYY := Lib.hid hyy
 have HAA := Lib.hid haa
 clear hblk hown hrow hrep hpp hyy haa hsz
 obtain ⟨ea0, ea1, ea2, ea3⟩ := ST.out.ba.four
 have xal := ST.out.ba.lt
 conv => arg 2; whnf
 go_wp2_with fail
 refine hcm.mono ?_
 rintro e wB ⟨rfl, rfl⟩
 clear hcm
 have hin := H_hin.out
 have hinI : ¬ (n : Int) ≤ i := by omega
 have hil : i < n := by omega
 obtain ⟨sg, scap', hse, -⟩ := own_form HO.out (by omega)
 simp only [Value.slice.injEq] at hse
 obtain ⟨rfl, -, rfl⟩ := hse
 have HOw := CellsKept.own (CellsKept.below ST.out.old) HO.out
 obtain ⟨q0, q1, q2, q3, q4⟩ := row_cells HOw (HRW.out i hil)
 have lg := (HOw.lt sg rfl).2
 have hxa : xa i ≤ 400000 := Nat.le_trans (HPP.out i hil).1 (by decide)
 have HTJ := Lib.hid (HRP.out i hil)
 have HOJ := Lib.hid (HYY.out i hil)
 clear HOw
 have h0 := H_h0.out
 have x1 := name_full2 h0
 have Hnz := Lib.hid h0
 have Hin := Lib.hid hin
 clear h0 hin
 have HCB := Lib.hid (fun (W' : World) (hW : Below W.heap.size W W') => composite_any (TB.out.old hW))
 obtain ⟨eb0, eb1, eb2, eb3⟩ := ST.out.bb.four
 have xbl := ST.out.bb.lt
 go_wp2_with fail
 obtain ⟨pk, hpk⟩ : ∃ z, z = wB.heap.size := ⟨_, rfl⟩
 obtain ⟨wP, hwP⟩ : ∃ z : World, z = wB.alloc (.cells #[.string (pn i), .pointer (some ⟨pc i, 0, none⟩), .int .i64 (xa i : Nat), .int .i64 (xb i : Nat), .int .i64 0] 56) := ⟨_, rfl⟩
 rw [← hpk, ← hwP]
 have hbP : Below wB.heap.size wB wP := by rw [hwP]; exact (Below.refl _ _).alloc (Nat.le_refl _) _
 have hpb : Blk wP pk #[.string (pn i), .pointer (some ⟨pc i, 0, none⟩), .int .i64 (xa i : Nat), .int .i64 (xb i : Nat), .int .i64 0] 56 := by rw [hwP, hpk]; exact Blk.new _ _ _
 have hpkw : wB.heap.size = pk := hpk.symm
 have STP := Lib.hid (ST.out.below hbP (Nat.le_refl _))
 have HPB := Lib.hid hpb
 have hcb := HCB.out wP STP.out.old
 have HLL : Hid (ra < pk ∧ rb < pk) := Lib.hid ⟨by have := ST.out.ba.lt; omega, by have := ST.out.bb.lt; omega⟩
 clear ea0 ea1 ea2 ea3 eb0 eb1 eb2 eb3 xbl q0 q1 q2 q3 q4 xal hwP x1 hpk hbP hpb hpkw
 have gl := Nat.lt_of_lt_of_le hg STP.out.old.size
 rw [isC_comp] at hcb
 refine hcb.mono ?_
 rintro e w5 ⟨rfl, rfl⟩
 obtain ⟨wP, rfl⟩ : ∃ z : World, z = w5 := ⟨_, rfl⟩
 clear hcb
 obtain ⟨p0, p1, p2, p3, p4⟩ := HPB.out.five
 obtain ⟨eb0, eb1, eb2, eb3⟩ := STP.out.bb.four
 have xbl := STP.out.bb.lt
 have pl := HPB.out.lt
 have HPN := Lib.hid (partNamed_any (nm := pn i) (TB.out.fresh STP.out.old) STP.out.okb.shp)
 go_wp2_with fail
 refine HPN.out.mono ?_
 rintro e w6 ⟨hnd, hb6⟩
 clear HPN p0 p1 p2 p3 p4 eb0 eb1 eb2 eb3 xbl pl
 have ST6 := Lib.hid (STP.out.below hb6 (Nat.le_refl _))
 have HPB6 := Lib.hid (HPB.out.old hb6)
 have STP6 := Lib.hid STP.out.old
 clear STP HPB
 have hfp := H_hfp.out
 rw [hfp] at hnd
 obtain ⟨pq, rfl, hrq⟩ := hnd
 obtain ⟨hoh, hph, hah⟩ := findP_ok ST6.out.okb hfp
 have HRQ := Lib.hid (hrq.back STP6.out)
 have HOH := Lib.hid hoh
 have HFP := Lib.hid hfp
 clear hrq hfp hb6 hoh hph STP6
 obtain ⟨p0, p1, p2, p3, p4⟩ := HPB6.out.five
 obtain ⟨eb0, eb1, eb2, eb3⟩ := ST6.out.bb.four
 have c5 := (HC5.out w6 ST6.out.old)
 have pl := HPB6.out.lt
 have xbl := ST6.out.bb.lt
 have pal := Nat.lt_of_lt_of_le TA.out.lt ST6.out.old.size
 go_upto_region 24 with fail
 obtain ⟨qk, hpk⟩ : ∃ z, z = w6.heap.size := ⟨_, rfl⟩
 obtain ⟨wQ, hwP⟩ : ∃ z : World, z = w6.alloc (.cells #[.string (pn i), .pointer (some ⟨pq, 0, none⟩), .int .i64 (h.at_ : Nat), .int .i64 (h.bits : Nat), .int .i64 0] 56) := ⟨_, rfl⟩
 rw [← hpk, ← hwP]
 have hbP : Below w6.heap.size w6 wQ := by rw [hwP]; exact (Below.refl _ _).alloc (Nat.le_refl _) _
 have hpb : Blk wQ qk #[.string (pn i), .pointer (some ⟨pq, 0, none⟩), .int .i64 (h.at_ : Nat), .int .i64 (h.bits : Nat), .int .i64 0] 56 := by rw [hwP, hpk]; exact Blk.new _ _ _
 have STQ := Lib.hid (ST6.out.below hbP (Nat.le_refl _))
 have HPQ := Lib.hid (HPB6.out.old hbP)
 have HQB := Lib.hid hpb
 have HKL : Hid (ra < qk ∧ rb < qk ∧ pk ≠ qk) := Lib.hid ⟨by have := ST6.out.ba.lt; omega, by have := ST6.out.bb.lt; omega, by have := HPB6.out.lt; omega⟩
 have hrr : ao ≤ 60000000 + k * 100000 ∧ bo ≤ 60000000 + k * 100000 := ST6.out.bnd
 clear p0 p1 p2 p3 p4 eb0 eb1 eb2 eb3 pl xbl c5 pal hwP hpk hbP hpb HPB6 ST6
 obtain ⟨p0, p1, p2, p3, p4⟩ := HPQ.out.five
 obtain ⟨r0, r1, r2, r3, r4⟩ := HQB.out.five
 have pl := HPQ.out.lt
 have rl := HQB.out.lt
 have HXA := Lib.hid hxa
 have HAH := Lib.hid hah
 have hbb := H_hbb.out
 go_cut [123] (fun s123 wx => s123 = .bool false ∧ wx = wQ)
 case first =>
  by_cases hx0 : xb i = 0
  ·have hh : ¬ ((h.bits : Nat) : Int) = 0 := by omega
   rw [hx0] at p3
   clear hbb hx0
   go_wp2_with fail
   go_meet
   exact ⟨congrArg Value.bool (beq_eq_false_iff_ne.2 hh), rfl⟩
  ·have hx : ¬ ((xb i : Nat) : Int) = 0 := by omega
   clear hbb hx0
   go_wp2_with fail
   go_meet
   exact ⟨rfl, rfl⟩
 case rest =>
  obtain ⟨rfl, hwc⟩ := hcut
  subst hwc
  obtain ⟨wQ, rfl⟩ : ∃ z : World, z = wc := ⟨_, rfl⟩
  have HBB := Lib.hid hbb
  have HAL1 := Lib.hid (fun (W' : World) (hW : Below W.heap.size W W') => align_any (py i).cnt (Nat.le_refl _) (HTJ.out.old hW))
  have HAL2 := Lib.hid (fun (W' : World) (hW : Below W.heap.size W W') => align_any h.y.cnt (Nat.le_refl _) (HRQ.out.old hW))
  clear hbb
  have hre := H_hre.out
  have hr0 : rest.length ≠ 0 := fun h0 => hre (by rw [List.length_eq_zero_iff.1 h0]; rfl)
  have hre' : rest.isEmpty = false := by simpa using hre
  have hlt1 : (k : Int) + 1 < (L : Int) - 1 := by omega
  have HRES : Hid (R = (⟨.comp un nm sz n pn py xa xb, ao, ab, af, (.comp un2 nm2 sz2 n2 pn2 py2 xa2 xb2), bo, bbi, bf⟩, .wrong)) := Lib.hid (HRR.out.trans (fieldGo_stop (by
   unfold stepF; simp only [if_neg Hin.out, if_neg Hnz.out, HFP.out, if_neg HBB.out, hre', ↓reduceIte])))
  clear hre hre' hr0 HAL1 HAL2 hxa hah
  go_upto_region 27 with fail
  clear p0 p1 p2 p3 p4 r0 r1 r2 r3 r4 pl rl
  obtain ⟨ea0, ea1, ea2, ea3⟩ := STQ.out.ba.four
  obtain ⟨eb0, eb1, eb2, eb3⟩ := STQ.out.bb.four
  have k60 := STQ.out.b6.free 0
  have k61 := STQ.out.b6.free 1
  have k62 := STQ.out.b6.free 2
  have k63 := STQ.out.b6.free 3
  have k70 := STQ.out.b7.free 0
  have k71 := STQ.out.b7.free 1
  have k72 := STQ.out.b7.free 2
  have k73 := STQ.out.b7.free 3
  have k6l := STQ.out.b6.lt
  have k7l := STQ.out.b7.lt
  obtain ⟨z60, z61, z62, z63⟩ := STQ.out.b6.four
  obtain ⟨z70, z71, z72, z73⟩ := STQ.out.b7.four
  have xal := STQ.out.ba.lt
  have xbl := STQ.out.bb.lt
  have d67 := HD.out.d67
  have d76 := HD.out.d67.symm
  have f6a := F6a.out
  have f6b := F6b.out
  have f7a := F7a.out
  have f7b := F7b.out
  apply wp_meet0 (fun w' => Hid (FEnd W z6 z7 pa ao ab af pb bo bbi bf w'))
  case h1 =>
   refine AnyR.start (wr := [3, 2]) (rd := (fun cls => match cls with | 0 => [0, 1] | 1 => [4] | _ + 2 => [])) (Sf := (fun cls w' => match cls with | 0 => w'.cell? ⟨ra, 0, none⟩ = some (.pointer (some ⟨pa, 0, none⟩)) ∧ w'.cell? ⟨ra, 1, none⟩ = some (.int .i64 (ao : Nat)) ∧ w'.cell? ⟨ra, 2, none⟩ = some (.int .i64 (ab : Nat)) ∧ w'.cell? ⟨ra, 3, none⟩ = some (.int .i64 (af : Nat)) ∧ w'.cell? ⟨rb, 0, none⟩ = some (.pointer (some ⟨pb, 0, none⟩)) ∧ w'.cell? ⟨rb, 1, none⟩ = some (.int .i64 (bo : Nat)) ∧ w'.cell? ⟨rb, 2, none⟩ = some (.int .i64 (bbi : Nat)) ∧ w'.cell? ⟨rb, 3, none⟩ = some (.int .i64 (bf : Nat)) | 1 => True | _ + 2 => True)) (by as_aux_lemma => kernel_rfl) (fun cls => match cls with | 0 => ⟨ea0, ea1, ea2, ea3, eb0, eb1, eb2, eb3⟩ | 1 => trivial | _ + 2 => trivial) (fun hHeld => ?_)
   refine AnyR.tk (i := 0) 0 (v := ?_) rfl (by as_aux_lemma => kernel_rfl) (fun _ _ _ h => h) hHeld (by rfl) ?_ ?_
   rotate_left
   focus (intro w hSw0; have hSw : (fun w' : World => w'.cell? ⟨ra, 0, none⟩ = some (.pointer (some ⟨pa, 0, none⟩)) ∧ w'.cell? ⟨ra, 1, none⟩ = some (.int .i64 (ao : Nat)) ∧ w'.cell? ⟨ra, 2, none⟩ = some (.int .i64 (ab : Nat)) ∧ w'.cell? ⟨ra, 3, none⟩ = some (.int .i64 (af : Nat)) ∧ w'.cell? ⟨rb, 0, none⟩ = some (.pointer (some ⟨pb, 0, none⟩)) ∧ w'.cell? ⟨rb, 1, none⟩ = some (.int .i64 (bo : Nat)) ∧ w'.cell? ⟨rb, 2, none⟩ = some (.int .i64 (bbi : Nat)) ∧ w'.cell? ⟨rb, 3, none⟩ = some (.int .i64 (bf : Nat))) w := hSw0; clear hSw0; (try dsimp only at hSw); go_simp <;> with_reducible rfl)
   clear hHeld
   intro hHeld
   try simp only [Act.put, zl1, zl2, zl3, zl4, zl5, zl6]
   refine AnyR.tk (i := 1) 0 (v := ?_) rfl (by as_aux_lemma => kernel_rfl) (fun _ _ _ h => h) hHeld (by rfl) ?_ ?_
   rotate_left
   focus (intro w hSw0; have hSw : (fun w' : World => w'.cell? ⟨ra, 0, none⟩ = some (.pointer (some ⟨pa, 0, none⟩)) ∧ w'.cell? ⟨ra, 1, none⟩ = some (.int .i64 (ao : Nat)) ∧ w'.cell? ⟨ra, 2, none⟩ = some (.int .i64 (ab : Nat)) ∧ w'.cell? ⟨ra, 3, none⟩ = some (.int .i64 (af : Nat)) ∧ w'.cell? ⟨rb, 0, none⟩ = some (.pointer (some ⟨pb, 0, none⟩)) ∧ w'.cell? ⟨rb, 1, none⟩ = some (.int .i64 (bo : Nat)) ∧ w'.cell? ⟨rb, 2, none⟩ = some (.int .i64 (bbi : Nat)) ∧ w'.cell? ⟨rb, 3, none⟩ = some (.int .i64 (bf : Nat))) w := hSw0; clear hSw0; (try dsimp only at hSw); go_simp <;> with_reducible rfl)
   clear hHeld
   intro hHeld
   try simp only [Act.put, zl1, zl2, zl3, zl4, zl5, zl6]
   refine AnyR.one (i := 2) (by as_aux_lemma => kernel_rfl) rfl (fun K hK => ?_)
   go_simp
   refine hK.out _ _ (fun cls => match cls with | 0 => .inr (by simp only [World.cell?_drew, f6a, f6b, f7a, f7b, ea0, ea1, ea2, ea3, eb0, eb1, eb2, eb3, and_self]) | 1 => .inr trivial | _ + 2 => .inr trivial) (fun hHeld => ?_)
   clear hK K
   try simp only [Act.put, zl1, zl2, zl3, zl4, zl5, zl6]
   refine AnyR.one (i := 3) (by as_aux_lemma => kernel_rfl) rfl (fun K hK => ?_)
   go_simp
   refine hK.out _ _ (fun cls => match cls with | 0 => .inr (by simp only [World.cell?_drew, f6a, f6b, f7a, f7b, ea0, ea1, ea2, ea3, eb0, eb1, eb2, eb3, and_self]) | 1 => .inr trivial | _ + 2 => .inr trivial) (fun hHeld => ?_)
   clear hK K
   try simp only [Act.put, zl1, zl2, zl3, zl4, zl5, zl6]
   refine AnyR.tk (i := 4) 1 (v := ?_) rfl (by as_aux_lemma => kernel_rfl) (fun _ _ _ h => h) hHeld (by rfl) ?_ ?_
   rotate_left
   focus (intro w h; clear h; go_simp <;> with_reducible rfl)
   clear hHeld
   intro hHeld
   try simp only [Act.put, zl1, zl2, zl3, zl4, zl5, zl6]
   refine AnyR.end_ (by as_aux_lemma => kernel_rfl) ?_
   exact ⟨Lib.hid (STQ.out.fend HD.out), rfl⟩
  case h2 =>
   intro w4 FE
   clear ea0 ea1 ea2 ea3 eb0 eb1 eb2 eb3 k60 k61 k62 k63 k70 k71 k72 k73 k6l k7l z60 z61 z62 z63 z70 z71 z72 z73 xal xbl d67 d76 f6a f6b f7a f7b
   obtain ⟨y0, y1, y2, y3⟩ := FE.out.b6.four
   obtain ⟨x0, x1, x2, x3⟩ := FE.out.b7.four
   have yl := FE.out.b6.lt
   have xl := FE.out.b7.lt
   go_wp2_with fail
   refine bodyPost_ret (v := .tuple #[fldV pa ao ab af, fldV pb bo bbi bf, .int .i64 2]) ?_ rfl ⟨pa, pb, by rw [HRES.out]; rfl, by rw [HRES.out]; exact STQ.out.ta, by rw [HRES.out]; exact STQ.out.tb, by rw [HRES.out]; exact STQ.out.oka, by rw [HRES.out]; exact STQ.out.okb, FE.out.old⟩
   rw [results_cct rfl]
   unfold fldV
   go_simp
end
section
variable {c0 c2 c3 c4 c5 c20 c21 c22 c23 c24 c25 c26 c27 c28 c29 c30 c31 c32 c33 c34 c35 c36 c37 c38 c39 c40 c41 c42 c43 c44 c284 c285 u8 u13 u14 u15 u16 u17 u18 u19 u48 u49 u50 u51 u52 u53 u54 u55 u56 u57 u58 u59 u60 u61 u62 u63 u64 u65 u66 u67 u68 u69 u70 u71 u72 u73 u74 u75 u76 u77 u78 u79 u80 u81 u82 u83 u84 u85 u86 u87 u88 u89 u90 u91 u92 u93 u94 u95 u96 u97 u98 u99 u100 u101 u102 u103 u104 u105 u106 u107 u108 u109 u110 u111 u112 u113 u114 u115 u116 u117 u118 u119 u120 u121 u122 u123 u124 u125 u126 u127 u128 u129 u130 u131 u132 u133 u134 u135 u136 u137 u138 u139 u140 u141 u142 u143 u144 u145 u146 u147 u148 u149 u150 u151 u152 u153 u154 u155 u156 u157 u158 u159 u160 u161 u162 u163 u164 u165 u166 u167 u168 u169 u170 u171 u172 u173 u174 u175 u176 u177 u178 u179 u180 u181 u182 u183 u184 u185 u186 u187 u188 u189 u190 u191 u192 u193 u194 u195 u196 u197 u198 u199 u200 u201 u202 u203 u204 u205 u206 u207 u208 u209 u210 u211 u212 u213 u214 u215 u216 u217 u218 u219 u220 u221 u222 u223 u224 u225 u226 u227 u228 u229 u230 u231 u232 u233 u234 u235 u236 u237 u238 u239 u240 u241 u242 u243 u244 u245 u246 u247 u248 u249 u250 u251 u252 u253 u254 u255 u256 u257 u258 u259 u260 u261 u262 u263 u264 u265 u266 u267 u268 u269 u270 u271 u272 u273 u274 u275 u276 u277 u278 u279 u280 u281 u282 u283 : Value}
theorem fld_25 {W wr : World} {g L cap z6 z7 ra rb plen pa pb k i gk : Nat} {rest : List Nat} {oa ob : Bool} {R : FS × Out} {J : Nat → Act → World → Prop} {K K6 : Act → World → Prop}
  {un un2 : Bool} {nm nm2 : ByteArray} {sz n sz2 n2 : Nat} {pn pn2 : Nat → ByteArray} {py py2 : Nat → Ty} {xa xb xa2 xb2 : Nat → Nat} {ao ab af bo bbi bf : Nat} {h : Hit} (hin : ¬ n ≤ i) (h0 : ¬ (pn i).size = 0) (hfp : findP (pn i) (.comp un2 nm2 sz2 n2 pn2 py2 xa2 xb2) = some h) (hbb : xb i = 0 ∧ h.bits = 0)
  (X : FCtx W g L cap z6 z7 ra rb plen) (hqk : (i :: rest).length + k = plen) (hqg : (i :: rest).length ≤ gk) (HACC : Hid (Acc W g L (i :: rest) (k + 1))) (ST : Hid (FSt W z6 z7 ra rb pa pb (60000000 + k * 100000) ⟨.comp un nm sz n pn py xa xb, ao, ab, af, (.comp un2 nm2 sz2 n2 pn2 py2 xa2 xb2), bo, bbi, bf⟩ wr)) (HRR : Hid (R = fieldGo (i :: rest) ⟨.comp un nm sz n pn py xa xb, ao, ab, af, (.comp un2 nm2 sz2 n2 pn2 py2 xa2 xb2), bo, bbi, bf⟩))
  (hJ : ∀ k' a' w', FInv W g L cap z6 z7 ra rb plen R c0 c2 c3 c4 c5 c20 c21 c22 c23 c24 c25 c26 c27 c28 c29 c30 c31 c32 c33 c34 c35 c36 c37 c38 c39 c40 c41 c42 c43 c44 c284 c285 k' a' w' → J k' a' w') (hK : ∀ a' w', Handed J gk a' w' → K a' w') :
  Code.wp Tryz.prog fldBody (Exit.then K (Exit.inBlock 0 (Exit.then K6 (bodyPost Tryz.prog Tryz.f11 (FRes W R))))) ⟨#[c0, .slice (some ⟨g, 0, none⟩) L cap, c2, c3, c4, c5, .pointer (some ⟨z6, 0, none⟩), .pointer (some ⟨z7, 0, none⟩), u8, .pointer (some ⟨ra, 0, none⟩), .pointer (some ⟨rb, 0, none⟩), .bool oa, .bool ob, u13, u14, u15, u16, u17, u18, u19, c20, c21, c22, c23, c24, c25, c26, c27, c28, c29, c30, c31, c32, c33, c34, c35, c36, c37, c38, c39, c40, c41, c42, c43, c44, .slice (some ⟨g, 1, none⟩) (L - 1) (cap - 1), .int .i64 ((L - 1 : Nat) : Int), .int .i64 (k : Int), u48, u49, u50, u51, u52, u53, u54, u55, u56, u57, u58, u59, u60, u61, u62, u63, u64, u65, u66, u67, u68, u69, u70, u71, u72, u73, u74, u75, u76, u77, u78, u79, u80, u81, u82, u83, u84, u85, u86, u87, u88, u89, u90, u91, u92, u93, u94, u95, u96, u97, u98, u99, u100, u101, u102, u103, u104, u105, u106, u107, u108, u109, u110, u111, u112, u113, u114, u115, u116, u117, u118, u119, u120, u121, u122, u123, u124, u125, u126, u127, u128, u129, u130, u131, u132, u133, u134, u135, u136, u137, u138, u139, u140, u141, u142, u143, u144, u145, u146, u147, u148, u149, u150, u151, u152, u153, u154, u155, u156, u157, u158, u159, u160, u161, u162, u163, u164, u165, u166, u167, u168, u169, u170, u171, u172, u173, u174, u175, u176, u177, u178, u179, u180, u181, u182, u183, u184, u185, u186, u187, u188, u189, u190, u191, u192, u193, u194, u195, u196, u197, u198, u199, u200, u201, u202, u203, u204, u205, u206, u207, u208, u209, u210, u211, u212, u213, u214, u215, u216, u217, u218, u219, u220, u221, u222, u223, u224, u225, u226, u227, u228, u229, u230, u231, u232, u233, u234, u235, u236, u237, u238, u239, u240, u241, u242, u243, u244, u245, u246, u247, u248, u249, u250, u251, u252, u253, u254, u255, u256, u257, u258, u259, u260, u261, u262, u263, u264, u265, u266, u267, u268, u269, u270, u271, u272, u273, u274, u275, u276, u277, u278, u279, u280, u281, u282, u283, c284, c285], []⟩ wr := by
 obtain ⟨hL, hg, hcap, hlen, hL2, DD⟩ := X
 have HD := Lib.hid DD
 obtain ⟨F6a, F6b, F7a, F7b⟩ := DD.far
 have hab := DD.dab
 have hab' := DD.dab.symm
 clear DD
 have hLp : (1 : Int) ≤ L := by omega
 have hcapp : (L : Int) ≤ cap := by omega
 have hc2 : (2 : Int) ≤ cap := by omega
 simp only [List.length_cons] at hqk hqg
 have hkL : (k : Int) < L - 1 := by omega
 have hkL' : ¬ ((L : Int) - 1 ≤ k) := by omega
 obtain ⟨hi0, hi1⟩ := HACC.out.2 0 i rfl
 have HACC1 := Lib.hid HACC.out.tail
 have hi2 := (ST.out.old.cell (p := ⟨g, k + 1 + 0, none⟩) hg).trans hi0
 rw [Nat.add_zero, Nat.add_comm] at hi2
 have gl := Nat.lt_of_lt_of_le hg ST.out.old.size
 clear hi0 HACC
 have H_hin := Lib.hid hin
 clear hin
 have H_h0 := Lib.hid h0
 clear h0
 have H_hfp := Lib.hid hfp
 clear hfp
 have H_hbb := Lib.hid hbb
 clear hbb
 have RA : Hid (Rep wr Nowhere pa (.comp un nm sz n pn py xa xb)) := Lib.hid (ST.out.ta.old ST.out.old)
 have TA : Hid (Rep W Nowhere pa (.comp un nm sz n pn py xa xb)) := Lib.hid ST.out.ta
 have TB : Hid (Rep W Nowhere pb (.comp un2 nm2 sz2 n2 pn2 py2 xa2 xb2)) := Lib.hid ST.out.tb
 have hcm := composite_any RA.out
 have pal := RA.out.lt
 rw [isC_comp] at hcm
 obtain ⟨pv, pxs, pc, hblk, hown, hrow, hrep⟩ := TA.out.comp_inv
 obtain ⟨sa, scap, rfl⟩ := own_slice hown
 obtain ⟨_, _, _, _, _, c5W⟩ := hblk.six
 have HC5 := Lib.hid (fun (W' : World) (hW : Below W.heap.size W W') => (hW.cell (p := ⟨pa, 5, none⟩) hblk.lt).trans c5W)
 have c5 := HC5.out _ ST.out.old
 clear c5W
 obtain ⟨hsz, hn20, hpp, hyy, haa⟩ := ST.out.oka.parts
 have HO := Lib.hid hown
 have HRW := Lib.hid hrow
 have HRP := Lib.hid hrep
 have HPP := Lib.hid hpp
 have HYY := Lib.hid hyy
 have HAA := Lib.hid haa
 clear hblk hown hrow hrep hpp hyy haa hsz
 obtain ⟨ea0, ea1, ea2, ea3⟩ := ST.out.ba.four
 have xal := ST.out.ba.lt
 conv => arg 2; whnf
 go_wp2_with fail
 refine hcm.mono ?_
 rintro e wB ⟨rfl, rfl⟩
 clear hcm
 have hin := H_hin.out
 have hinI : ¬ (n : Int) ≤ i := by omega
 have hil : i < n := by omega
 obtain ⟨sg, scap', hse, -⟩ := own_form HO.out (by omega)
 simp only [Value.slice.injEq] at hse
 obtain ⟨rfl, -, rfl⟩ := hse
 have HOw := CellsKept.own (CellsKept.below ST.out.old) HO.out
 obtain ⟨q0, q1, q2, q3, q4⟩ := row_cells HOw (HRW.out i hil)
 have lg := (HOw.lt sg rfl).2
 have hxa : xa i ≤ 400000 := Nat.le_trans (HPP.out i hil).1 (by decide)
 have HTJ := Lib.hid (HRP.out i hil)
 have HOJ := Lib.hid (HYY.out i hil)
 clear HOw
 have h0 := H_h0.out
 have x1 := name_full2 h0
 have Hnz := Lib.hid h0
 have Hin := Lib.hid hin
 clear h0 hin
 have HCB := Lib.hid (fun (W' : World) (hW : Below W.heap.size W W') => composite_any (TB.out.old hW))
 obtain ⟨eb0, eb1, eb2, eb3⟩ := ST.out.bb.four
 have xbl := ST.out.bb.lt
 go_wp2_with fail
 obtain ⟨pk, hpk⟩ : ∃ z, z = wB.heap.size := ⟨_, rfl⟩
 obtain ⟨wP, hwP⟩ : ∃ z : World, z = wB.alloc (.cells #[.string (pn i), .pointer (some ⟨pc i, 0, none⟩), .int .i64 (xa i : Nat), .int .i64 (xb i : Nat), .int .i64 0] 56) := ⟨_, rfl⟩
 rw [← hpk, ← hwP]
 have hbP : Below wB.heap.size wB wP := by rw [hwP]; exact (Below.refl _ _).alloc (Nat.le_refl _) _
 have hpb : Blk wP pk #[.string (pn i), .pointer (some ⟨pc i, 0, none⟩), .int .i64 (xa i : Nat), .int .i64 (xb i : Nat), .int .i64 0] 56 := by rw [hwP, hpk]; exact Blk.new _ _ _
 have hpkw : wB.heap.size = pk := hpk.symm
 have STP := Lib.hid (ST.out.below hbP (Nat.le_refl _))
 have HPB := Lib.hid hpb
 have hcb := HCB.out wP STP.out.old
 have HLL : Hid (ra < pk ∧ rb < pk) := Lib.hid ⟨by have := ST.out.ba.lt; omega, by have := ST.out.bb.lt; omega⟩
 clear ea0 ea1 ea2 ea3 eb0 eb1 eb2 eb3 xbl q0 q1 q2 q3 q4 xal hwP x1 hpk hbP hpb hpkw
 have gl := Nat.lt_of_lt_of_le hg STP.out.old.size
 rw [isC_comp] at hcb
 refine hcb.mono ?_
 rintro e w5 ⟨rfl, rfl⟩
 obtain ⟨wP, rfl⟩ : ∃ z : World, z = w5 := ⟨_, rfl⟩
 clear hcb
 obtain ⟨p0, p1, p2, p3, p4⟩ := HPB.out.five
 obtain ⟨eb0, eb1, eb2, eb3⟩ := STP.out.bb.four
 have xbl := STP.out.bb.lt
 have pl := HPB.out.lt
 have HPN := Lib.hid (partNamed_any (nm := pn i) (TB.out.fresh STP.out.old) STP.out.okb.shp)
 go_wp2_with fail
 refine HPN.out.mono ?_
 rintro e w6 ⟨hnd, hb6⟩
 clear HPN p0 p1 p2 p3 p4 eb0 eb1 eb2 eb3 xbl pl
 have ST6 := Lib.hid (STP.out.below hb6 (Nat.le_refl _))
 have HPB6 := Lib.hid (HPB.out.old hb6)
 have STP6 := Lib.hid STP.out.old
 clear STP HPB
 have hfp := H_hfp.out
 rw [hfp] at hnd
 obtain ⟨pq, rfl, hrq⟩ := hnd
 obtain ⟨hoh, hph, hah⟩ := findP_ok ST6.out.okb hfp
 have HRQ := Lib.hid (hrq.back STP6.out)
 have HOH := Lib.hid hoh
 have HFP := Lib.hid hfp
 clear hrq hfp hb6 hoh hph STP6
 obtain ⟨p0, p1, p2, p3, p4⟩ := HPB6.out.five
 obtain ⟨eb0, eb1, eb2, eb3⟩ := ST6.out.bb.four
 have c5 := (HC5.out w6 ST6.out.old)
 have pl := HPB6.out.lt
 have xbl := ST6.out.bb.lt
 have pal := Nat.lt_of_lt_of_le TA.out.lt ST6.out.old.size
 go_upto_region 24 with fail
 obtain ⟨qk, hpk⟩ : ∃ z, z = w6.heap.size := ⟨_, rfl⟩
 obtain ⟨wQ, hwP⟩ : ∃ z : World, z = w6.alloc (.cells #[.string (pn i), .pointer (some ⟨pq, 0, none⟩), .int .i64 (h.at_ : Nat), .int .i64 (h.bits : Nat), .int .i64 0] 56) := ⟨_, rfl⟩
 rw [← hpk, ← hwP]
 have hbP : Below w6.heap.size w6 wQ := by rw [hwP]; exact (Below.refl _ _).alloc (Nat.le_refl _) _
 have hpb : Blk wQ qk #[.string (pn i), .pointer (some ⟨pq, 0, none⟩), .int .i64 (h.at_ : Nat), .int .i64 (h.bits : Nat), .int .i64 0] 56 := by rw [hwP, hpk]; exact Blk.new _ _ _
 have STQ := Lib.hid (ST6.out.below hbP (Nat.le_refl _))
 have HPQ := Lib.hid (HPB6.out.old hbP)
 have HQB := Lib.hid hpb
 have HKL : Hid (ra < qk ∧ rb < qk ∧ pk ≠ qk) := Lib.hid ⟨by have := ST6.out.ba.lt; omega, by have := ST6.out.bb.lt; omega, by have := HPB6.out.lt; omega⟩
 have hrr : ao ≤ 60000000 + k * 100000 ∧ bo ≤ 60000000 + k * 100000 := ST6.out.bnd
 clear p0 p1 p2 p3 p4 eb0 eb1 eb2 eb3 pl xbl c5 pal hwP hpk hbP hpb HPB6 ST6
 obtain ⟨p0, p1, p2, p3, p4⟩ := HPQ.out.five
 obtain ⟨r0, r1, r2, r3, r4⟩ := HQB.out.five
 have pl := HPQ.out.lt
 have rl := HQB.out.lt
 have HXA := Lib.hid hxa
 have HAH := Lib.hid hah
 have hbb := H_hbb.out
 obtain ⟨hx0, hh0⟩ := hbb
 rw [hx0] at p3
 rw [hh0] at r3
 have hst : stepF ⟨.comp un nm sz n pn py xa xb, ao, ab, af, (.comp un2 nm2 sz2 n2 pn2 py2 xa2 xb2), bo, bbi, bf⟩ i rest.isEmpty = (⟨py i, ao + xa i / 8, 0, 0, h.y, bo + h.at_ / 8, 0, 0⟩, if cmpF (py i) h.y = true then none else some .poison) := by
  unfold stepF; simp only [if_neg Hin.out, if_neg Hnz.out, HFP.out, if_pos (And.intro hx0 hh0)]
 have HGO : Hid (R = if cmpF (py i) h.y = true then fieldGo rest ⟨py i, ao + xa i / 8, 0, 0, h.y, bo + h.at_ / 8, 0, 0⟩ else (⟨py i, ao + xa i / 8, 0, 0, h.y, bo + h.at_ / 8, 0, 0⟩, .poison)) := Lib.hid (HRR.out.trans (by
  by_cases hc : cmpF (py i) h.y = true
  ·rw [if_pos hc] at hst ⊢; exact fieldGo_on hst
  ·rw [if_neg hc] at hst ⊢; exact fieldGo_stop hst))
 obtain ⟨hdv, hsm, hbd⟩ := part_bnd hxa hrr.1 (by omega : k ≤ 5)
 obtain ⟨hdv2, hsm2, hbd2⟩ := part_bnd hah hrr.2 (by omega : k ≤ 5)
 clear hst hx0 hh0
 go_upto_region 25 with fail
 clear p0 p3 p4 r0 r3 r4 hxa hah
 obtain ⟨ea0, ea1, ea2, ea3⟩ := STQ.out.ba.four
 obtain ⟨eb0, eb1, eb2, eb3⟩ := STQ.out.bb.four
 have xal := STQ.out.ba.lt
 have xbl := STQ.out.bb.lt
 have fa0 := STQ.out.ba.free 0
 have fb0 := STQ.out.bb.free 0
 have fa1 := STQ.out.ba.free 1
 have fb1 := STQ.out.bb.free 1
 have fa2 := STQ.out.ba.free 2
 have fb2 := STQ.out.bb.free 2
 have fa3 := STQ.out.ba.free 3
 have fb3 := STQ.out.bb.free 3
 have hqra : qk ≠ ra := by have := HKL.out.1; omega
 have FRA : Hid (∀ (w : World) (i : Nat) (v : Value) (a : Addr) (_ : a.block ≠ ra), (w.setCell ⟨ra, i, none⟩ v).cell? a = w.cell? a) := Lib.hid (fun w i v a h => World.cell?_setCell_far _ ⟨ra, i, none⟩ a _ (fun e => h e.symm))
 apply wp_meet0 (fun w' => Hid (FSt W z6 z7 ra rb (pc i) pq (60000000 + (k + 1) * 100000) ⟨py i, ao + xa i / 8, 0, 0, h.y, bo + h.at_ / 8, 0, 0⟩ w'))
 case h1 =>
  refine AnyR.start (wr := [19, 18]) (rd := (fun cls => match cls with | 0 => [1, 3, 5] | 1 => [10, 12, 14] | 2 => [0, 2, 4, 6, 7, 8, 9, 11, 13, 15, 16, 17] | _ + 3 => [])) (Sf := (fun cls w' => match cls with | 0 => w'.cell? ⟨pk, 1, none⟩ = some (.pointer (some ⟨pc i, 0, none⟩)) ∧ w'.cell? ⟨pk, 2, none⟩ = some (.int .i64 (xa i : Nat)) ∧ w'.cell? ⟨ra, 1, none⟩ = some (.int .i64 (ao : Nat)) | 1 => w'.cell? ⟨qk, 1, none⟩ = some (.pointer (some ⟨pq, 0, none⟩)) ∧ w'.cell? ⟨qk, 2, none⟩ = some (.int .i64 (h.at_ : Nat)) ∧ w'.cell? ⟨rb, 1, none⟩ = some (.int .i64 (bo : Nat)) | 2 => True | _ + 3 => True)) (by as_aux_lemma => kernel_rfl) (fun cls => match cls with | 0 => ⟨p1, p2, ea1⟩ | 1 => ⟨r1, r2, eb1⟩ | 2 => trivial | _ + 3 => trivial) (fun hHeld => ?_)
  refine AnyR.tk (i := 0) 2 (v := ?_) rfl (by as_aux_lemma => kernel_rfl) (fun _ _ _ h => h) hHeld (by rfl) ?_ ?_
  rotate_left
  focus (intro w h; clear h; go_simp <;> with_reducible rfl)
  clear hHeld
  intro hHeld
  try simp only [Act.put, zl1, zl2, zl3, zl4, zl5, zl6]
  refine AnyR.tk (i := 2) 2 (v := ?_) rfl (by as_aux_lemma => kernel_rfl) (fun _ _ _ h => h) hHeld (by rfl) ?_ ?_
  rotate_left
  focus (intro w h; clear h; go_simp <;> with_reducible rfl)
  clear hHeld
  intro hHeld
  try simp only [Act.put, zl1, zl2, zl3, zl4, zl5, zl6]
  refine AnyR.tk (i := 4) 2 (v := ?_) rfl (by as_aux_lemma => kernel_rfl) (fun _ _ _ h => h) hHeld (by rfl) ?_ ?_
  rotate_left
  focus (intro w h; clear h; go_simp <;> with_reducible rfl)
  clear hHeld
  intro hHeld
  try simp only [Act.put, zl1, zl2, zl3, zl4, zl5, zl6]
  refine AnyR.tk (i := 9) 2 (v := ?_) rfl (by as_aux_lemma => kernel_rfl) (fun _ _ _ h => h) hHeld (by rfl) ?_ ?_
  rotate_left
  focus (intro w h; clear h; go_simp <;> with_reducible rfl)
  clear hHeld
  intro hHeld
  try simp only [Act.put, zl1, zl2, zl3, zl4, zl5, zl6]
  refine AnyR.tk (i := 11) 2 (v := ?_) rfl (by as_aux_lemma => kernel_rfl) (fun _ _ _ h => h) hHeld (by rfl) ?_ ?_
  rotate_left
  focus (intro w h; clear h; go_simp <;> with_reducible rfl)
  clear hHeld
  intro hHeld
  try simp only [Act.put, zl1, zl2, zl3, zl4, zl5, zl6]
  refine AnyR.tk (i := 13) 2 (v := ?_) rfl (by as_aux_lemma => kernel_rfl) (fun _ _ _ h => h) hHeld (by rfl) ?_ ?_
  rotate_left
  focus (intro w h; clear h; go_simp <;> with_reducible rfl)
  clear hHeld
  intro hHeld
  try simp only [Act.put, zl1, zl2, zl3, zl4, zl5, zl6]
  refine AnyR.tk (i := 1) 0 (v := ?_) rfl (by as_aux_lemma => kernel_rfl) (fun _ _ _ h => h) hHeld (by rfl) ?_ ?_
  rotate_left
  focus (intro w hSw0; have hSw : (fun w' : World => w'.cell? ⟨pk, 1, none⟩ = some (.pointer (some ⟨pc i, 0, none⟩)) ∧ w'.cell? ⟨pk, 2, none⟩ = some (.int .i64 (xa i : Nat)) ∧ w'.cell? ⟨ra, 1, none⟩ = some (.int .i64 (ao : Nat))) w := hSw0; clear hSw0; (try dsimp only at hSw); go_simp <;> with_reducible rfl)
  clear hHeld
  intro hHeld
  try simp only [Act.put, zl1, zl2, zl3, zl4, zl5, zl6]
  refine AnyR.tk (i := 3) 0 (v := ?_) rfl (by as_aux_lemma => kernel_rfl) (fun _ _ _ h => h) hHeld (by rfl) ?_ ?_
  rotate_left
  focus (intro w hSw0; have hSw : (fun w' : World => w'.cell? ⟨pk, 1, none⟩ = some (.pointer (some ⟨pc i, 0, none⟩)) ∧ w'.cell? ⟨pk, 2, none⟩ = some (.int .i64 (xa i : Nat)) ∧ w'.cell? ⟨ra, 1, none⟩ = some (.int .i64 (ao : Nat))) w := hSw0; clear hSw0; (try dsimp only at hSw); go_simp <;> with_reducible rfl)
  clear hHeld
  intro hHeld
  try simp only [Act.put, zl1, zl2, zl3, zl4, zl5, zl6]
  refine AnyR.tk (i := 5) 0 (v := ?_) rfl (by as_aux_lemma => kernel_rfl) (fun _ _ _ h => h) hHeld (by rfl) ?_ ?_
  rotate_left
  focus (intro w hSw0; have hSw : (fun w' : World => w'.cell? ⟨pk, 1, none⟩ = some (.pointer (some ⟨pc i, 0, none⟩)) ∧ w'.cell? ⟨pk, 2, none⟩ = some (.int .i64 (xa i : Nat)) ∧ w'.cell? ⟨ra, 1, none⟩ = some (.int .i64 (ao : Nat))) w := hSw0; clear hSw0; (try dsimp only at hSw); go_simp <;> with_reducible rfl)
  clear hHeld
  intro hHeld
  try simp only [Act.put, zl1, zl2, zl3, zl4, zl5, zl6]
  refine AnyR.tk (i := 10) 1 (v := ?_) rfl (by as_aux_lemma => kernel_rfl) (fun _ _ _ h => h) hHeld (by rfl) ?_ ?_
  rotate_left
  focus (intro w hSw0; have hSw : (fun w' : World => w'.cell? ⟨qk, 1, none⟩ = some (.pointer (some ⟨pq, 0, none⟩)) ∧ w'.cell? ⟨qk, 2, none⟩ = some (.int .i64 (h.at_ : Nat)) ∧ w'.cell? ⟨rb, 1, none⟩ = some (.int .i64 (bo : Nat))) w := hSw0; clear hSw0; (try dsimp only at hSw); go_simp <;> with_reducible rfl)
  clear hHeld
  intro hHeld
  try simp only [Act.put, zl1, zl2, zl3, zl4, zl5, zl6]
  refine AnyR.tk (i := 12) 1 (v := ?_) rfl (by as_aux_lemma => kernel_rfl) (fun _ _ _ h => h) hHeld (by rfl) ?_ ?_
  rotate_left
  focus (intro w hSw0; have hSw : (fun w' : World => w'.cell? ⟨qk, 1, none⟩ = some (.pointer (some ⟨pq, 0, none⟩)) ∧ w'.cell? ⟨qk, 2, none⟩ = some (.int .i64 (h.at_ : Nat)) ∧ w'.cell? ⟨rb, 1, none⟩ = some (.int .i64 (bo : Nat))) w := hSw0; clear hSw0; (try dsimp only at hSw); go_simp <;> with_reducible rfl)
  clear hHeld
  intro hHeld
  try simp only [Act.put, zl1, zl2, zl3, zl4, zl5, zl6]
  refine AnyR.tk (i := 14) 1 (v := ?_) rfl (by as_aux_lemma => kernel_rfl) (fun _ _ _ h => h) hHeld (by rfl) ?_ ?_
  rotate_left
  focus (intro w hSw0; have hSw : (fun w' : World => w'.cell? ⟨qk, 1, none⟩ = some (.pointer (some ⟨pq, 0, none⟩)) ∧ w'.cell? ⟨qk, 2, none⟩ = some (.int .i64 (h.at_ : Nat)) ∧ w'.cell? ⟨rb, 1, none⟩ = some (.int .i64 (bo : Nat))) w := hSw0; clear hSw0; (try dsimp only at hSw); go_simp <;> with_reducible rfl)
  clear hHeld
  intro hHeld
  try simp only [Act.put, zl1, zl2, zl3, zl4, zl5, zl6]
  refine AnyR.tk (i := 6) 2 (v := ?_) rfl (by as_aux_lemma => kernel_rfl) (fun _ _ _ h => h) hHeld (by rfl) ?_ ?_
  rotate_left
  focus (intro w h; clear h; go_simp <;> with_reducible rfl)
  clear hHeld
  intro hHeld
  try simp only [Act.put, zl1, zl2, zl3, zl4, zl5, zl6]
  refine AnyR.tk (i := 15) 2 (v := ?_) rfl (by as_aux_lemma => kernel_rfl) (fun _ _ _ h => h) hHeld (by rfl) ?_ ?_
  rotate_left
  focus (intro w h; clear h; go_simp <;> with_reducible rfl)
  clear hHeld
  intro hHeld
  try simp only [Act.put, zl1, zl2, zl3, zl4, zl5, zl6]
  refine AnyR.tk (i := 7) 2 (v := ?_) rfl (by as_aux_lemma => kernel_rfl) (fun _ _ _ h => h) hHeld (by rfl) ?_ ?_
  rotate_left
  focus (intro w h; clear h; go_simp <;> with_reducible rfl)
  clear hHeld
  intro hHeld
  try simp only [Act.put, zl1, zl2, zl3, zl4, zl5, zl6]
  refine AnyR.tk (i := 16) 2 (v := ?_) rfl (by as_aux_lemma => kernel_rfl) (fun _ _ _ h => h) hHeld (by rfl) ?_ ?_
  rotate_left
  focus (intro w h; clear h; go_simp <;> with_reducible rfl)
  clear hHeld
  intro hHeld
  try simp only [Act.put, zl1, zl2, zl3, zl4, zl5, zl6]
  refine AnyR.tk (i := 8) 2 (v := ?_) rfl (by as_aux_lemma => kernel_rfl) (fun _ _ _ h => h) hHeld (by rfl) ?_ ?_
  rotate_left
  focus (intro w h; clear h; go_simp <;> with_reducible rfl)
  clear hHeld
  intro hHeld
  try simp only [Act.put, zl1, zl2, zl3, zl4, zl5, zl6]
  refine AnyR.tk (i := 17) 2 (v := ?_) rfl (by as_aux_lemma => kernel_rfl) (fun _ _ _ h => h) hHeld (by rfl) ?_ ?_
  rotate_left
  focus (intro w h; clear h; go_simp <;> with_reducible rfl)
  clear hHeld
  intro hHeld
  try simp only [Act.put, zl1, zl2, zl3, zl4, zl5, zl6]
  refine AnyR.one (i := 18) (by as_aux_lemma => kernel_rfl) rfl (fun K hK => ?_)
  go_simp
  refine hK.out _ _ (fun cls => match cls with | 0 => .inl (by as_aux_lemma => kernel_rfl) | 1 => .inr (by simp only [World.cell?_drew, FRA.out _ _ _ ⟨rb, _, none⟩ hab', FRA.out _ _ _ ⟨qk, _, none⟩ hqra, eb1, r1, r2, and_self]) | 2 => .inr trivial | _ + 3 => .inr trivial) (fun hHeld => ?_)
  clear hK K
  try simp only [Act.put, zl1, zl2, zl3, zl4, zl5, zl6]
  refine AnyR.one (i := 19) (by as_aux_lemma => kernel_rfl) rfl (fun K hK => ?_)
  go_simp
  refine hK.out _ _ (fun cls => match cls with | 0 => .inl (by as_aux_lemma => kernel_rfl) | 1 => .inl (by as_aux_lemma => kernel_rfl) | 2 => .inr trivial | _ + 3 => .inr trivial) (fun hHeld => ?_)
  clear hK K
  try simp only [Act.put, zl1, zl2, zl3, zl4, zl5, zl6]
  refine AnyR.end_ (by as_aux_lemma => kernel_rfl) ?_
  exact ⟨Lib.hid (FSt.drew (STQ.out.put HD.out (by dsimp only; omega) rfl rfl (by dsimp only; omega) rfl rfl HTJ.out HRQ.out HOJ.out HOH.out ⟨hbd, hbd2⟩)), rfl⟩
 case h2 =>
  intro w6 ST2
  clear eb0 eb1 eb2 eb3 p1 p2 r1 r2 pl rl xbl fa0 fa1 fa2 fa3 fb0 fb1 fb2 fb3 FRA STQ hdv hsm hbd hdv2 hsm2 hbd2
  obtain ⟨s2, hs2⟩ : ∃ s2 : FS, s2 = ⟨py i, ao + xa i / 8, 0, 0, h.y, bo + h.at_ / 8, 0, 0⟩ := ⟨_, rfl⟩
  have HGO : Hid (R = if cmpF s2.a s2.b = true then fieldGo rest s2 else (s2, .poison)) := by rw [hs2]; exact HGO
  rw [← hs2] at ST2
  obtain ⟨p1, hp1⟩ : ∃ z, z = pc i := ⟨_, rfl⟩
  obtain ⟨q1, hq1⟩ : ∃ z, z = pq := ⟨_, rfl⟩
  rw [← hp1, ← hq1] at ST2
  clear hs2 hp1 hq1
  clear ea0 ea1 ea2 ea3 xal gl hi2
  obtain ⟨ua, uo, ub, uf, va, vo, vb, vf⟩ := s2
  have e0 := (ST2.out.ba.four).1
  have e1 := (ST2.out.bb.four).1
  have el := ST2.out.ba.lt
  have fl := ST2.out.bb.lt
  have hcp := compatF ua.cnt (Nat.le_refl _) ST2.out.oka ST2.out.okb (ST2.out.ta.old ST2.out.old) (ST2.out.tb.old ST2.out.old)
  by_cases hcf : cmpF ua va = true
  ·rw [hcf] at hcp
   have HR2 : Hid (R = fieldGo rest ⟨ua, uo, ub, uf, va, vo, vb, vf⟩) := Lib.hid (HGO.out.trans (if_pos hcf))
   clear hcf HGO
   go_wp2_with fail
   refine hcp.mono ?_
   rintro e w9 ⟨rfl, nd, hw9⟩
   have ST3 : Hid (FSt W z6 z7 ra rb p1 q1 (60000000 + (k + 1) * 100000) ⟨ua, uo, ub, uf, va, vo, vb, vf⟩ w9) := Lib.hid (ST2.out.below (by rw [hw9]; exact below_drewN (Below.refl _ _) _) (Nat.le_refl _))
   clear hw9 ST2 hcp e0 e1 el fl
   have hwk : IntKind.i64.wrap ((k : Int) + 1) = ((k + 1 : Nat) : Int) := IntWalk.i64_in _ (by omega)
   go_wp2_with fail
   go_roundg rest.length
   case measure => omega
   case rel => exact ⟨rest, k + 1, _, p1, q1, _, _, by omega, Nat.le_refl _, by first | rfl | (simp only [hwk]; done) | omega, rfl, rfl, HACC1, ST3, HR2⟩
  ·have hcf' : cmpF ua va = false := by simpa using hcf
   rw [hcf'] at hcp
   have HRES : Hid (R = (⟨ua, uo, ub, uf, va, vo, vb, vf⟩, .poison)) := Lib.hid (HGO.out.trans (if_neg hcf))
   clear hcf hcf' HGO
   go_wp2_with fail
   refine hcp.mono ?_
   rintro e w9 ⟨rfl, nd, hw9⟩
   have ST3 : Hid (FSt W z6 z7 ra rb p1 q1 (60000000 + (k + 1) * 100000) ⟨ua, uo, ub, uf, va, vo, vb, vf⟩ w9) := Lib.hid (ST2.out.below (by rw [hw9]; exact below_drewN (Below.refl _ _) _) (Nat.le_refl _))
   clear hw9 ST2 hcp e0 e1 el fl
   obtain ⟨ea0, ea1, ea2, ea3⟩ := ST3.out.ba.four
   obtain ⟨eb0, eb1, eb2, eb3⟩ := ST3.out.bb.four
   have k60 := ST3.out.b6.free 0
   have k61 := ST3.out.b6.free 1
   have k62 := ST3.out.b6.free 2
   have k63 := ST3.out.b6.free 3
   have k70 := ST3.out.b7.free 0
   have k71 := ST3.out.b7.free 1
   have k72 := ST3.out.b7.free 2
   have k73 := ST3.out.b7.free 3
   have k6l := ST3.out.b6.lt
   have k7l := ST3.out.b7.lt
   obtain ⟨z60, z61, z62, z63⟩ := ST3.out.b6.four
   obtain ⟨z70, z71, z72, z73⟩ := ST3.out.b7.four
   have xal := ST3.out.ba.lt
   have xbl := ST3.out.bb.lt
   have d67 := HD.out.d67
   have d76 := HD.out.d67.symm
   have f6a := F6a.out
   have f6b := F6b.out
   have f7a := F7a.out
   have f7b := F7b.out
   go_upto_region 41 with fail
   apply wp_meet0 (fun w' => Hid (FEnd W z6 z7 p1 uo ub uf q1 vo vb vf w'))
   case h1 =>
    refine AnyR.start (wr := [3, 2]) (rd := (fun cls => match cls with | 0 => [0, 1] | 1 => [4] | _ + 2 => [])) (Sf := (fun cls w' => match cls with | 0 => w'.cell? ⟨ra, 0, none⟩ = some (.pointer (some ⟨p1, 0, none⟩)) ∧ w'.cell? ⟨ra, 1, none⟩ = some (.int .i64 (uo : Nat)) ∧ w'.cell? ⟨ra, 2, none⟩ = some (.int .i64 (ub : Nat)) ∧ w'.cell? ⟨ra, 3, none⟩ = some (.int .i64 (uf : Nat)) ∧ w'.cell? ⟨rb, 0, none⟩ = some (.pointer (some ⟨q1, 0, none⟩)) ∧ w'.cell? ⟨rb, 1, none⟩ = some (.int .i64 (vo : Nat)) ∧ w'.cell? ⟨rb, 2, none⟩ = some (.int .i64 (vb : Nat)) ∧ w'.cell? ⟨rb, 3, none⟩ = some (.int .i64 (vf : Nat)) | 1 => True | _ + 2 => True)) (by as_aux_lemma => kernel_rfl) (fun cls => match cls with | 0 => ⟨ea0, ea1, ea2, ea3, eb0, eb1, eb2, eb3⟩ | 1 => trivial | _ + 2 => trivial) (fun hHeld => ?_)
    refine AnyR.tk (i := 0) 0 (v := ?_) rfl (by as_aux_lemma => kernel_rfl) (fun _ _ _ h => h) hHeld (by rfl) ?_ ?_
    rotate_left
    focus (intro w hSw0; have hSw : (fun w' : World => w'.cell? ⟨ra, 0, none⟩ = some (.pointer (some ⟨p1, 0, none⟩)) ∧ w'.cell? ⟨ra, 1, none⟩ = some (.int .i64 (uo : Nat)) ∧ w'.cell? ⟨ra, 2, none⟩ = some (.int .i64 (ub : Nat)) ∧ w'.cell? ⟨ra, 3, none⟩ = some (.int .i64 (uf : Nat)) ∧ w'.cell? ⟨rb, 0, none⟩ = some (.pointer (some ⟨q1, 0, none⟩)) ∧ w'.cell? ⟨rb, 1, none⟩ = some (.int .i64 (vo : Nat)) ∧ w'.cell? ⟨rb, 2, none⟩ = some (.int .i64 (vb : Nat)) ∧ w'.cell? ⟨rb, 3, none⟩ = some (.int .i64 (vf : Nat))) w := hSw0; clear hSw0; (try dsimp only at hSw); go_simp <;> with_reducible rfl)
    clear hHeld
    intro hHeld
    try simp only [Act.put, zl1, zl2, zl3, zl4, zl5, zl6]
    refine AnyR.tk (i := 1) 0 (v := ?_) rfl (by as_aux_lemma => kernel_rfl) (fun _ _ _ h => h) hHeld (by rfl) ?_ ?_
    rotate_left
    focus (intro w hSw0; have hSw : (fun w' : World => w'.cell? ⟨ra, 0, none⟩ = some (.pointer (some ⟨p1, 0, none⟩)) ∧ w'.cell? ⟨ra, 1, none⟩ = some (.int .i64 (uo : Nat)) ∧ w'.cell? ⟨ra, 2, none⟩ = some (.int .i64 (ub : Nat)) ∧ w'.cell? ⟨ra, 3, none⟩ = some (.int .i64 (uf : Nat)) ∧ w'.cell? ⟨rb, 0, none⟩ = some (.pointer (some ⟨q1, 0, none⟩)) ∧ w'.cell? ⟨rb, 1, none⟩ = some (.int .i64 (vo : Nat)) ∧ w'.cell? ⟨rb, 2, none⟩ = some (.int .i64 (vb : Nat)) ∧ w'.cell? ⟨rb, 3, none⟩ = some (.int .i64 (vf : Nat))) w := hSw0; clear hSw0; (try dsimp only at hSw); go_simp <;> with_reducible rfl)
    clear hHeld
    intro hHeld
    try simp only [Act.put, zl1, zl2, zl3, zl4, zl5, zl6]
    refine AnyR.one (i := 2) (by as_aux_lemma => kernel_rfl) rfl (fun K hK => ?_)
    go_simp
    refine hK.out _ _ (fun cls => match cls with | 0 => .inr (by simp only [World.cell?_drew, f6a, f6b, f7a, f7b, ea0, ea1, ea2, ea3, eb0, eb1, eb2, eb3, and_self]) | 1 => .inr trivial | _ + 2 => .inr trivial) (fun hHeld => ?_)
    clear hK K
    try simp only [Act.put, zl1, zl2, zl3, zl4, zl5, zl6]
    refine AnyR.one (i := 3) (by as_aux_lemma => kernel_rfl) rfl (fun K hK => ?_)
    go_simp
    refine hK.out _ _ (fun cls => match cls with | 0 => .inr (by simp only [World.cell?_drew, f6a, f6b, f7a, f7b, ea0, ea1, ea2, ea3, eb0, eb1, eb2, eb3, and_self]) | 1 => .inr trivial | _ + 2 => .inr trivial) (fun hHeld => ?_)
    clear hK K
    try simp only [Act.put, zl1, zl2, zl3, zl4, zl5, zl6]
    refine AnyR.tk (i := 4) 1 (v := ?_) rfl (by as_aux_lemma => kernel_rfl) (fun _ _ _ h => h) hHeld (by rfl) ?_ ?_
    rotate_left
    focus (intro w h; clear h; go_simp <;> with_reducible rfl)
    clear hHeld
    intro hHeld
    try simp only [Act.put, zl1, zl2, zl3, zl4, zl5, zl6]
    refine AnyR.end_ (by as_aux_lemma => kernel_rfl) ?_
    exact ⟨Lib.hid (ST3.out.fend HD.out), rfl⟩
   case h2 =>
    intro w4 FE
    clear ea0 ea1 ea2 ea3 eb0 eb1 eb2 eb3 k60 k61 k62 k63 k70 k71 k72 k73 k6l k7l z60 z61 z62 z63 z70 z71 z72 z73 xal xbl d67 d76 f6a f6b f7a f7b
    obtain ⟨y0, y1, y2, y3⟩ := FE.out.b6.four
    obtain ⟨x0, x1, x2, x3⟩ := FE.out.b7.four
    have yl := FE.out.b6.lt
    have xl := FE.out.b7.lt
    go_wp2_with fail
    refine bodyPost_ret (v := .tuple #[fldV p1 uo ub uf, fldV q1 vo vb vf, .int .i64 1]) ?_ rfl ⟨p1, q1, by rw [HRES.out]; rfl, by rw [HRES.out]; exact ST3.out.ta, by rw [HRES.out]; exact ST3.out.tb, by rw [HRES.out]; exact ST3.out.oka, by rw [HRES.out]; exact ST3.out.okb, FE.out.old⟩
    rw [results_cct rfl]
    unfold fldV
    go_simp
end
section
variable {c0 c2 c3 c4 c5 c20 c21 c22 c23 c24 c25 c26 c27 c28 c29 c30 c31 c32 c33 c34 c35 c36 c37 c38 c39 c40 c41 c42 c43 c44 c284 c285 u8 u13 u14 u15 u16 u17 u18 u19 u48 u49 u50 u51 u52 u53 u54 u55 u56 u57 u58 u59 u60 u61 u62 u63 u64 u65 u66 u67 u68 u69 u70 u71 u72 u73 u74 u75 u76 u77 u78 u79 u80 u81 u82 u83 u84 u85 u86 u87 u88 u89 u90 u91 u92 u93 u94 u95 u96 u97 u98 u99 u100 u101 u102 u103 u104 u105 u106 u107 u108 u109 u110 u111 u112 u113 u114 u115 u116 u117 u118 u119 u120 u121 u122 u123 u124 u125 u126 u127 u128 u129 u130 u131 u132 u133 u134 u135 u136 u137 u138 u139 u140 u141 u142 u143 u144 u145 u146 u147 u148 u149 u150 u151 u152 u153 u154 u155 u156 u157 u158 u159 u160 u161 u162 u163 u164 u165 u166 u167 u168 u169 u170 u171 u172 u173 u174 u175 u176 u177 u178 u179 u180 u181 u182 u183 u184 u185 u186 u187 u188 u189 u190 u191 u192 u193 u194 u195 u196 u197 u198 u199 u200 u201 u202 u203 u204 u205 u206 u207 u208 u209 u210 u211 u212 u213 u214 u215 u216 u217 u218 u219 u220 u221 u222 u223 u224 u225 u226 u227 u228 u229 u230 u231 u232 u233 u234 u235 u236 u237 u238 u239 u240 u241 u242 u243 u244 u245 u246 u247 u248 u249 u250 u251 u252 u253 u254 u255 u256 u257 u258 u259 u260 u261 u262 u263 u264 u265 u266 u267 u268 u269 u270 u271 u272 u273 u274 u275 u276 u277 u278 u279 u280 u281 u282 u283 : Value}
theorem fld_29a {W wr : World} {g L cap z6 z7 ra rb plen pa pb k i gk : Nat} {rest : List Nat} {oa ob : Bool} {R : FS × Out} {J : Nat → Act → World → Prop} {K K6 : Act → World → Prop}
  {un un2 : Bool} {nm nm2 : ByteArray} {sz n sz2 n2 : Nat} {pn pn2 : Nat → ByteArray} {py py2 : Nat → Ty} {xa xb xa2 xb2 : Nat → Nat} {ao ab af bo bbi bf : Nat} {h : Hit} (hin : ¬ n ≤ i) (h0 : ¬ (pn i).size = 0) (hfp : findP (pn i) (.comp un2 nm2 sz2 n2 pn2 py2 xa2 xb2) = some h) (hbb : ¬ (xb i = 0 ∧ h.bits = 0)) (hre : rest.isEmpty = true) (ha1 : al (py i) = 0)
  (X : FCtx W g L cap z6 z7 ra rb plen) (hqk : (i :: rest).length + k = plen) (hqg : (i :: rest).length ≤ gk) (HACC : Hid (Acc W g L (i :: rest) (k + 1))) (ST : Hid (FSt W z6 z7 ra rb pa pb (60000000 + k * 100000) ⟨.comp un nm sz n pn py xa xb, ao, ab, af, (.comp un2 nm2 sz2 n2 pn2 py2 xa2 xb2), bo, bbi, bf⟩ wr)) (HRR : Hid (R = fieldGo (i :: rest) ⟨.comp un nm sz n pn py xa xb, ao, ab, af, (.comp un2 nm2 sz2 n2 pn2 py2 xa2 xb2), bo, bbi, bf⟩))
  (hJ : ∀ k' a' w', FInv W g L cap z6 z7 ra rb plen R c0 c2 c3 c4 c5 c20 c21 c22 c23 c24 c25 c26 c27 c28 c29 c30 c31 c32 c33 c34 c35 c36 c37 c38 c39 c40 c41 c42 c43 c44 c284 c285 k' a' w' → J k' a' w') (hK : ∀ a' w', Handed J gk a' w' → K a' w') :
  Code.wp Tryz.prog fldBody (Exit.then K (Exit.inBlock 0 (Exit.then K6 (bodyPost Tryz.prog Tryz.f11 (FRes W R))))) ⟨#[c0, .slice (some ⟨g, 0, none⟩) L cap, c2, c3, c4, c5, .pointer (some ⟨z6, 0, none⟩), .pointer (some ⟨z7, 0, none⟩), u8, .pointer (some ⟨ra, 0, none⟩), .pointer (some ⟨rb, 0, none⟩), .bool oa, .bool ob, u13, u14, u15, u16, u17, u18, u19, c20, c21, c22, c23, c24, c25, c26, c27, c28, c29, c30, c31, c32, c33, c34, c35, c36, c37, c38, c39, c40, c41, c42, c43, c44, .slice (some ⟨g, 1, none⟩) (L - 1) (cap - 1), .int .i64 ((L - 1 : Nat) : Int), .int .i64 (k : Int), u48, u49, u50, u51, u52, u53, u54, u55, u56, u57, u58, u59, u60, u61, u62, u63, u64, u65, u66, u67, u68, u69, u70, u71, u72, u73, u74, u75, u76, u77, u78, u79, u80, u81, u82, u83, u84, u85, u86, u87, u88, u89, u90, u91, u92, u93, u94, u95, u96, u97, u98, u99, u100, u101, u102, u103, u104, u105, u106, u107, u108, u109, u110, u111, u112, u113, u114, u115, u116, u117, u118, u119, u120, u121, u122, u123, u124, u125, u126, u127, u128, u129, u130, u131, u132, u133, u134, u135, u136, u137, u138, u139, u140, u141, u142, u143, u144, u145, u146, u147, u148, u149, u150, u151, u152, u153, u154, u155, u156, u157, u158, u159, u160, u161, u162, u163, u164, u165, u166, u167, u168, u169, u170, u171, u172, u173, u174, u175, u176, u177, u178, u179, u180, u181, u182, u183, u184, u185, u186, u187, u188, u189, u190, u191, u192, u193, u194, u195, u196, u197, u198, u199, u200, u201, u202, u203, u204, u205, u206, u207, u208, u209, u210, u211, u212, u213, u214, u215, u216, u217, u218, u219, u220, u221, u222, u223, u224, u225, u226, u227, u228, u229, u230, u231, u232, u233, u234, u235, u236, u237, u238, u239, u240, u241, u242, u243, u244, u245, u246, u247, u248, u249, u250, u251, u252, u253, u254, u255, u256, u257, u258, u259, u260, u261, u262, u263, u264, u265, u266, u267, u268, u269, u270, u271, u272, u273, u274, u275, u276, u277, u278, u279, u280, u281, u282, u283, c284, c285], []⟩ wr := by
 obtain ⟨hL, hg, hcap, hlen, hL2, DD⟩ := X
 have HD := Lib.hid DD
 obtain ⟨F6a, F6b, F7a, F7b⟩ := DD.far
 have hab := DD.dab
 have hab' := DD.dab.symm
 clear DD
 have hLp : (1 : Int) ≤ L := by omega
 have hcapp : (L : Int) ≤ cap := by omega
 have hc2 : (2 : Int) ≤ cap := by omega
 simp only [List.length_cons] at hqk hqg
 have hkL : (k : Int) < L - 1 := by omega
 have hkL' : ¬ ((L : Int) - 1 ≤ k) := by omega
 obtain ⟨hi0, hi1⟩ := HACC.out.2 0 i rfl
 have HACC1 := Lib.hid HACC.out.tail
 have hi2 := (ST.out.old.cell (p := ⟨g, k + 1 + 0, none⟩) hg).trans hi0
 rw [Nat.add_zero, Nat.add_comm] at hi2
 have gl := Nat.lt_of_lt_of_le hg ST.out.old.size
 clear hi0 HACC
 have H_hin := Lib.hid hin
 clear hin
 have H_h0 := Lib.hid h0
 clear h0
 have H_hfp := Lib.hid hfp
 clear hfp
 have H_hbb := Lib.hid hbb
 clear hbb
 have H_hre := Lib.hid hre
 clear hre
 have H_ha1 := Lib.hid ha1
 clear ha1
 have RA : Hid (Rep wr Nowhere pa (.comp un nm sz n pn py xa xb)) := Lib.hid (ST.out.ta.old ST.out.old)
 have TA : Hid (Rep W Nowhere pa (.comp un nm sz n pn py xa xb)) := Lib.hid ST.out.ta
 have TB : Hid (Rep W Nowhere pb (.comp un2 nm2 sz2 n2 pn2 py2 xa2 xb2)) := Lib.hid ST.out.tb
 have hcm := composite_any RA.out
 have pal := RA.out.lt
 rw [isC_comp] at hcm
 obtain ⟨pv, pxs, pc, hblk, hown, hrow, hrep⟩ := TA.out.comp_inv
 obtain ⟨sa, scap, rfl⟩ := own_slice hown
 obtain ⟨_, _, _, _, _, c5W⟩ := hblk.six
 have HC5 := Lib.hid (fun (W' : World) (hW : Below W.heap.size W W') => (hW.cell (p := ⟨pa, 5, none⟩) hblk.lt).trans c5W)
 have c5 := HC5.out _ ST.out.old
 clear c5W
 obtain ⟨hsz, hn20, hpp, hyy, haa⟩ := ST.out.oka.parts
 have HO := Lib.hid hown
 have HRW := Lib.hid hrow
 have HRP := Lib.hid hrep
 have HPP := Lib.hid hpp
 have HYY := Lib.hid hyy
 have HAA := Lib.hid haa
 clear hblk hown hrow hrep hpp hyy haa hsz
 obtain ⟨ea0, ea1, ea2, ea3⟩ := ST.out.ba.four
 have xal := ST.out.ba.lt
 conv => arg 2; whnf
 go_wp2_with fail
 refine hcm.mono ?_
 rintro e wB ⟨rfl, rfl⟩
 clear hcm
 have hin := H_hin.out
 have hinI : ¬ (n : Int) ≤ i := by omega
 have hil : i < n := by omega
 obtain ⟨sg, scap', hse, -⟩ := own_form HO.out (by omega)
 simp only [Value.slice.injEq] at hse
 obtain ⟨rfl, -, rfl⟩ := hse
 have HOw := CellsKept.own (CellsKept.below ST.out.old) HO.out
 obtain ⟨q0, q1, q2, q3, q4⟩ := row_cells HOw (HRW.out i hil)
 have lg := (HOw.lt sg rfl).2
 have hxa : xa i ≤ 400000 := Nat.le_trans (HPP.out i hil).1 (by decide)
 have HTJ := Lib.hid (HRP.out i hil)
 have HOJ := Lib.hid (HYY.out i hil)
 clear HOw
 have h0 := H_h0.out
 have x1 := name_full2 h0
 have Hnz := Lib.hid h0
 have Hin := Lib.hid hin
 clear h0 hin
 have HCB := Lib.hid (fun (W' : World) (hW : Below W.heap.size W W') => composite_any (TB.out.old hW))
 obtain ⟨eb0, eb1, eb2, eb3⟩ := ST.out.bb.four
 have xbl := ST.out.bb.lt
 go_wp2_with fail
 obtain ⟨pk, hpk⟩ : ∃ z, z = wB.heap.size := ⟨_, rfl⟩
 obtain ⟨wP, hwP⟩ : ∃ z : World, z = wB.alloc (.cells #[.string (pn i), .pointer (some ⟨pc i, 0, none⟩), .int .i64 (xa i : Nat), .int .i64 (xb i : Nat), .int .i64 0] 56) := ⟨_, rfl⟩
 rw [← hpk, ← hwP]
 have hbP : Below wB.heap.size wB wP := by rw [hwP]; exact (Below.refl _ _).alloc (Nat.le_refl _) _
 have hpb : Blk wP pk #[.string (pn i), .pointer (some ⟨pc i, 0, none⟩), .int .i64 (xa i : Nat), .int .i64 (xb i : Nat), .int .i64 0] 56 := by rw [hwP, hpk]; exact Blk.new _ _ _
 have hpkw : wB.heap.size = pk := hpk.symm
 have STP := Lib.hid (ST.out.below hbP (Nat.le_refl _))
 have HPB := Lib.hid hpb
 have hcb := HCB.out wP STP.out.old
 have HLL : Hid (ra < pk ∧ rb < pk) := Lib.hid ⟨by have := ST.out.ba.lt; omega, by have := ST.out.bb.lt; omega⟩
 clear ea0 ea1 ea2 ea3 eb0 eb1 eb2 eb3 xbl q0 q1 q2 q3 q4 xal hwP x1 hpk hbP hpb hpkw
 have gl := Nat.lt_of_lt_of_le hg STP.out.old.size
 rw [isC_comp] at hcb
 refine hcb.mono ?_
 rintro e w5 ⟨rfl, rfl⟩
 obtain ⟨wP, rfl⟩ : ∃ z : World, z = w5 := ⟨_, rfl⟩
 clear hcb
 obtain ⟨p0, p1, p2, p3, p4⟩ := HPB.out.five
 obtain ⟨eb0, eb1, eb2, eb3⟩ := STP.out.bb.four
 have xbl := STP.out.bb.lt
 have pl := HPB.out.lt
 have HPN := Lib.hid (partNamed_any (nm := pn i) (TB.out.fresh STP.out.old) STP.out.okb.shp)
 go_wp2_with fail
 refine HPN.out.mono ?_
 rintro e w6 ⟨hnd, hb6⟩
 clear HPN p0 p1 p2 p3 p4 eb0 eb1 eb2 eb3 xbl pl
 have ST6 := Lib.hid (STP.out.below hb6 (Nat.le_refl _))
 have HPB6 := Lib.hid (HPB.out.old hb6)
 have STP6 := Lib.hid STP.out.old
 clear STP HPB
 have hfp := H_hfp.out
 rw [hfp] at hnd
 obtain ⟨pq, rfl, hrq⟩ := hnd
 obtain ⟨hoh, hph, hah⟩ := findP_ok ST6.out.okb hfp
 have HRQ := Lib.hid (hrq.back STP6.out)
 have HOH := Lib.hid hoh
 have HFP := Lib.hid hfp
 clear hrq hfp hb6 hoh hph STP6
 obtain ⟨p0, p1, p2, p3, p4⟩ := HPB6.out.five
 obtain ⟨eb0, eb1, eb2, eb3⟩ := ST6.out.bb.four
 have c5 := (HC5.out w6 ST6.out.old)
 have pl := HPB6.out.lt
 have xbl := ST6.out.bb.lt
 have pal := Nat.lt_of_lt_of_le TA.out.lt ST6.out.old.size
 go_upto_region 24 with fail
 obtain ⟨qk, hpk⟩ : ∃ z, z = w6.heap.size := ⟨_, rfl⟩
 obtain ⟨wQ, hwP⟩ : ∃ z : World, z = w6.alloc (.cells #[.string (pn i), .pointer (some ⟨pq, 0, none⟩), .int .i64 (h.at_ : Nat), .int .i64 (h.bits : Nat), .int .i64 0] 56) := ⟨_, rfl⟩
 rw [← hpk, ← hwP]
 have hbP : Below w6.heap.size w6 wQ := by rw [hwP]; exact (Below.refl _ _).alloc (Nat.le_refl _) _
 have hpb : Blk wQ qk #[.string (pn i), .pointer (some ⟨pq, 0, none⟩), .int .i64 (h.at_ : Nat), .int .i64 (h.bits : Nat), .int .i64 0] 56 := by rw [hwP, hpk]; exact Blk.new _ _ _
 have STQ := Lib.hid (ST6.out.below hbP (Nat.le_refl _))
 have HPQ := Lib.hid (HPB6.out.old hbP)
 have HQB := Lib.hid hpb
 have HKL : Hid (ra < qk ∧ rb < qk ∧ pk ≠ qk) := Lib.hid ⟨by have := ST6.out.ba.lt; omega, by have := ST6.out.bb.lt; omega, by have := HPB6.out.lt; omega⟩
 have hrr : ao ≤ 60000000 + k * 100000 ∧ bo ≤ 60000000 + k * 100000 := ST6.out.bnd
 clear p0 p1 p2 p3 p4 eb0 eb1 eb2 eb3 pl xbl c5 pal hwP hpk hbP hpb HPB6 ST6
 obtain ⟨p0, p1, p2, p3, p4⟩ := HPQ.out.five
 obtain ⟨r0, r1, r2, r3, r4⟩ := HQB.out.five
 have pl := HPQ.out.lt
 have rl := HQB.out.lt
 have HXA := Lib.hid hxa
 have HAH := Lib.hid hah
 have hbb := H_hbb.out
 go_cut [123] (fun s123 wx => s123 = .bool false ∧ wx = wQ)
 case first =>
  by_cases hx0 : xb i = 0
  ·have hh : ¬ ((h.bits : Nat) : Int) = 0 := by omega
   rw [hx0] at p3
   clear hbb hx0
   go_wp2_with fail
   go_meet
   exact ⟨congrArg Value.bool (beq_eq_false_iff_ne.2 hh), rfl⟩
  ·have hx : ¬ ((xb i : Nat) : Int) = 0 := by omega
   clear hbb hx0
   go_wp2_with fail
   go_meet
   exact ⟨rfl, rfl⟩
 case rest =>
  obtain ⟨rfl, hwc⟩ := hcut
  subst hwc
  obtain ⟨wQ, rfl⟩ : ∃ z : World, z = wc := ⟨_, rfl⟩
  have HBB := Lib.hid hbb
  have HAL1 := Lib.hid (fun (W' : World) (hW : Below W.heap.size W W') => align_any (py i).cnt (Nat.le_refl _) (HTJ.out.old hW))
  have HAL2 := Lib.hid (fun (W' : World) (hW : Below W.heap.size W W') => align_any h.y.cnt (Nat.le_refl _) (HRQ.out.old hW))
  clear hbb
  have hre := H_hre.out
  have hr0 : rest.length = 0 := by rw [List.isEmpty_iff] at hre; rw [hre]; rfl
  have hlt1 : ¬ (k : Int) + 1 < (L : Int) - 1 := by omega
  have hal1 := HAL1.out wQ STQ.out.old
  have hal2 := HAL2.out wQ STQ.out.old
  have HRE := Lib.hid hre
  clear hre hr0 HAL1 HAL2
  have ha1 := H_ha1.out
  rw [ha1] at hal1
  have HRES : Hid (R = (⟨.comp un nm sz n pn py xa xb, ao, ab, af, (.comp un2 nm2 sz2 n2 pn2 py2 xa2 xb2), bo, bbi, bf⟩, .wrong)) := Lib.hid (HRR.out.trans (fieldGo_stop (by
   unfold stepF; simp only [if_neg Hin.out, if_neg Hnz.out, HFP.out, if_neg HBB.out, HRE.out, Bool.true_eq_false, ↓reduceIte, if_pos (Or.inl (b := al h.y = 0) ha1)])))
  clear ha1 hal2
  go_wp2_with fail
  refine hal1.mono ?_
  rintro e w7 ⟨rfl, rfl⟩
  obtain ⟨wQ, rfl⟩ : ∃ z : World, z = w7 := ⟨_, rfl⟩
  clear hal1 hah hxa HPP HYY HAA
  go_upto_region 29 with fail
  clear p0 p1 p2 p3 p4 r0 r1 r2 r3 r4 pl rl
  obtain ⟨ea0, ea1, ea2, ea3⟩ := STQ.out.ba.four
  obtain ⟨eb0, eb1, eb2, eb3⟩ := STQ.out.bb.four
  have k60 := STQ.out.b6.free 0
  have k61 := STQ.out.b6.free 1
  have k62 := STQ.out.b6.free 2
  have k63 := STQ.out.b6.free 3
  have k70 := STQ.out.b7.free 0
  have k71 := STQ.out.b7.free 1
  have k72 := STQ.out.b7.free 2
  have k73 := STQ.out.b7.free 3
  have k6l := STQ.out.b6.lt
  have k7l := STQ.out.b7.lt
  obtain ⟨z60, z61, z62, z63⟩ := STQ.out.b6.four
  obtain ⟨z70, z71, z72, z73⟩ := STQ.out.b7.four
  have xal := STQ.out.ba.lt
  have xbl := STQ.out.bb.lt
  have d67 := HD.out.d67
  have d76 := HD.out.d67.symm
  have f6a := F6a.out
  have f6b := F6b.out
  have f7a := F7a.out
  have f7b := F7b.out
  apply wp_meet0 (fun w' => Hid (FEnd W z6 z7 pa ao ab af pb bo bbi bf w'))
  case h1 =>
   refine AnyR.start (wr := [3, 2]) (rd := (fun cls => match cls with | 0 => [0, 1] | 1 => [4] | _ + 2 => [])) (Sf := (fun cls w' => match cls with | 0 => w'.cell? ⟨ra, 0, none⟩ = some (.pointer (some ⟨pa, 0, none⟩)) ∧ w'.cell? ⟨ra, 1, none⟩ = some (.int .i64 (ao : Nat)) ∧ w'.cell? ⟨ra, 2, none⟩ = some (.int .i64 (ab : Nat)) ∧ w'.cell? ⟨ra, 3, none⟩ = some (.int .i64 (af : Nat)) ∧ w'.cell? ⟨rb, 0, none⟩ = some (.pointer (some ⟨pb, 0, none⟩)) ∧ w'.cell? ⟨rb, 1, none⟩ = some (.int .i64 (bo : Nat)) ∧ w'.cell? ⟨rb, 2, none⟩ = some (.int .i64 (bbi : Nat)) ∧ w'.cell? ⟨rb, 3, none⟩ = some (.int .i64 (bf : Nat)) | 1 => True | _ + 2 => True)) (by as_aux_lemma => kernel_rfl) (fun cls => match cls with | 0 => ⟨ea0, ea1, ea2, ea3, eb0, eb1, eb2, eb3⟩ | 1 => trivial | _ + 2 => trivial) (fun hHeld => ?_)
   refine AnyR.tk (i := 0) 0 (v := ?_) rfl (by as_aux_lemma => kernel_rfl) (fun _ _ _ h => h) hHeld (by rfl) ?_ ?_
   rotate_left
   focus (intro w hSw0; have hSw : (fun w' : World => w'.cell? ⟨ra, 0, none⟩ = some (.pointer (some ⟨pa, 0, none⟩)) ∧ w'.cell? ⟨ra, 1, none⟩ = some (.int .i64 (ao : Nat)) ∧ w'.cell? ⟨ra, 2, none⟩ = some (.int .i64 (ab : Nat)) ∧ w'.cell? ⟨ra, 3, none⟩ = some (.int .i64 (af : Nat)) ∧ w'.cell? ⟨rb, 0, none⟩ = some (.pointer (some ⟨pb, 0, none⟩)) ∧ w'.cell? ⟨rb, 1, none⟩ = some (.int .i64 (bo : Nat)) ∧ w'.cell? ⟨rb, 2, none⟩ = some (.int .i64 (bbi : Nat)) ∧ w'.cell? ⟨rb, 3, none⟩ = some (.int .i64 (bf : Nat))) w := hSw0; clear hSw0; (try dsimp only at hSw); go_simp <;> with_reducible rfl)
   clear hHeld
   intro hHeld
   try simp only [Act.put, zl1, zl2, zl3, zl4, zl5, zl6]
   refine AnyR.tk (i := 1) 0 (v := ?_) rfl (by as_aux_lemma => kernel_rfl) (fun _ _ _ h => h) hHeld (by rfl) ?_ ?_
   rotate_left
   focus (intro w hSw0; have hSw : (fun w' : World => w'.cell? ⟨ra, 0, none⟩ = some (.pointer (some ⟨pa, 0, none⟩)) ∧ w'.cell? ⟨ra, 1, none⟩ = some (.int .i64 (ao : Nat)) ∧ w'.cell? ⟨ra, 2, none⟩ = some (.int .i64 (ab : Nat)) ∧ w'.cell? ⟨ra, 3, none⟩ = some (.int .i64 (af : Nat)) ∧ w'.cell? ⟨rb, 0, none⟩ = some (.pointer (some ⟨pb, 0, none⟩)) ∧ w'.cell? ⟨rb, 1, none⟩ = some (.int .i64 (bo : Nat)) ∧ w'.cell? ⟨rb, 2, none⟩ = some (.int .i64 (bbi : Nat)) ∧ w'.cell? ⟨rb, 3, none⟩ = some (.int .i64 (bf : Nat))) w := hSw0; clear hSw0; (try dsimp only at hSw); go_simp <;> with_reducible rfl)
   clear hHeld
   intro hHeld
   try simp only [Act.put, zl1, zl2, zl3, zl4, zl5, zl6]
   refine AnyR.one (i := 2) (by as_aux_lemma => kernel_rfl) rfl (fun K hK => ?_)
   go_simp
   refine hK.out _ _ (fun cls => match cls with | 0 => .inr (by simp only [World.cell?_drew, f6a, f6b, f7a, f7b, ea0, ea1, ea2, ea3, eb0, eb1, eb2, eb3, and_self]) | 1 => .inr trivial | _ + 2 => .inr trivial) (fun hHeld => ?_)
   clear hK K
   try simp only [Act.put, zl1, zl2, zl3, zl4, zl5, zl6]
   refine AnyR.one (i := 3) (by as_aux_lemma => kernel_rfl) rfl (fun K hK => ?_)
   go_simp
   refine hK.out _ _ (fun cls => match cls with | 0 => .inr (by simp only [World.cell?_drew, f6a, f6b, f7a, f7b, ea0, ea1, ea2, ea3, eb0, eb1, eb2, eb3, and_self]) | 1 => .inr trivial | _ + 2 => .inr trivial) (fun hHeld => ?_)
   clear hK K
   try simp only [Act.put, zl1, zl2, zl3, zl4, zl5, zl6]
   refine AnyR.tk (i := 4) 1 (v := ?_) rfl (by as_aux_lemma => kernel_rfl) (fun _ _ _ h => h) hHeld (by rfl) ?_ ?_
   rotate_left
   focus (intro w h; clear h; go_simp <;> with_reducible rfl)
   clear hHeld
   intro hHeld
   try simp only [Act.put, zl1, zl2, zl3, zl4, zl5, zl6]
   refine AnyR.end_ (by as_aux_lemma => kernel_rfl) ?_
   exact ⟨Lib.hid (STQ.out.fend HD.out), rfl⟩
  case h2 =>
   intro w4 FE
   clear ea0 ea1 ea2 ea3 eb0 eb1 eb2 eb3 k60 k61 k62 k63 k70 k71 k72 k73 k6l k7l z60 z61 z62 z63 z70 z71 z72 z73 xal xbl d67 d76 f6a f6b f7a f7b
   obtain ⟨y0, y1, y2, y3⟩ := FE.out.b6.four
   obtain ⟨x0, x1, x2, x3⟩ := FE.out.b7.four
   have yl := FE.out.b6.lt
   have xl := FE.out.b7.lt
   go_wp2_with fail
   refine bodyPost_ret (v := .tuple #[fldV pa ao ab af, fldV pb bo bbi bf, .int .i64 2]) ?_ rfl ⟨pa, pb, by rw [HRES.out]; rfl, by rw [HRES.out]; exact STQ.out.ta, by rw [HRES.out]; exact STQ.out.tb, by rw [HRES.out]; exact STQ.out.oka, by rw [HRES.out]; exact STQ.out.okb, FE.out.old⟩
   rw [results_cct rfl]
   unfold fldV
   go_simp
theorem fld_29b {W wr : World} {g L cap z6 z7 ra rb plen pa pb k i gk : Nat} {rest : List Nat} {oa ob : Bool} {R : FS × Out} {J : Nat → Act → World → Prop} {K K6 : Act → World → Prop}
  {un un2 : Bool} {nm nm2 : ByteArray} {sz n sz2 n2 : Nat} {pn pn2 : Nat → ByteArray} {py py2 : Nat → Ty} {xa xb xa2 xb2 : Nat → Nat} {ao ab af bo bbi bf : Nat} {h : Hit} (hin : ¬ n ≤ i) (h0 : ¬ (pn i).size = 0) (hfp : findP (pn i) (.comp un2 nm2 sz2 n2 pn2 py2 xa2 xb2) = some h) (hbb : ¬ (xb i = 0 ∧ h.bits = 0)) (hre : rest.isEmpty = true) (ha1 : ¬ al (py i) = 0) (ha2 : al h.y = 0)
  (X : FCtx W g L cap z6 z7 ra rb plen) (hqk : (i :: rest).length + k = plen) (hqg : (i :: rest).length ≤ gk) (HACC : Hid (Acc W g L (i :: rest) (k + 1))) (ST : Hid (FSt W z6 z7 ra rb pa pb (60000000 + k * 100000) ⟨.comp un nm sz n pn py xa xb, ao, ab, af, (.comp un2 nm2 sz2 n2 pn2 py2 xa2 xb2), bo, bbi, bf⟩ wr)) (HRR : Hid (R = fieldGo (i :: rest) ⟨.comp un nm sz n pn py xa xb, ao, ab, af, (.comp un2 nm2 sz2 n2 pn2 py2 xa2 xb2), bo, bbi, bf⟩))
  (hJ : ∀ k' a' w', FInv W g L cap z6 z7 ra rb plen R c0 c2 c3 c4 c5 c20 c21 c22 c23 c24 c25 c26 c27 c28 c29 c30 c31 c32 c33 c34 c35 c36 c37 c38 c39 c40 c41 c42 c43 c44 c284 c285 k' a' w' → J k' a' w') (hK : ∀ a' w', Handed J gk a' w' → K a' w') :
  Code.wp Tryz.prog fldBody (Exit.then K (Exit.inBlock 0 (Exit.then K6 (bodyPost Tryz.prog Tryz.f11 (FRes W R))))) ⟨#[c0, .slice (some ⟨g, 0, none⟩) L cap, c2, c3, c4, c5, .pointer (some ⟨z6, 0, none⟩), .pointer (some ⟨z7, 0, none⟩), u8, .pointer (some ⟨ra, 0, none⟩), .pointer (some ⟨rb, 0, none⟩), .bool oa, .bool ob, u13, u14, u15, u16, u17, u18, u19, c20, c21, c22, c23, c24, c25, c26, c27, c28, c29, c30, c31, c32, c33, c34, c35, c36, c37, c38, c39, c40, c41, c42, c43, c44, .slice (some ⟨g, 1, none⟩) (L - 1) (cap - 1), .int .i64 ((L - 1 : Nat) : Int), .int .i64 (k : Int), u48, u49, u50, u51, u52, u53, u54, u55, u56, u57, u58, u59, u60, u61, u62, u63, u64, u65, u66, u67, u68, u69, u70, u71, u72, u73, u74, u75, u76, u77, u78, u79, u80, u81, u82, u83, u84, u85, u86, u87, u88, u89, u90, u91, u92, u93, u94, u95, u96, u97, u98, u99, u100, u101, u102, u103, u104, u105, u106, u107, u108, u109, u110, u111, u112, u113, u114, u115, u116, u117, u118, u119, u120, u121, u122, u123, u124, u125, u126, u127, u128, u129, u130, u131, u132, u133, u134, u135, u136, u137, u138, u139, u140, u141, u142, u143, u144, u145, u146, u147, u148, u149, u150, u151, u152, u153, u154, u155, u156, u157, u158, u159, u160, u161, u162, u163, u164, u165, u166, u167, u168, u169, u170, u171, u172, u173, u174, u175, u176, u177, u178, u179, u180, u181, u182, u183, u184, u185, u186, u187, u188, u189, u190, u191, u192, u193, u194, u195, u196, u197, u198, u199, u200, u201, u202, u203, u204, u205, u206, u207, u208, u209, u210, u211, u212, u213, u214, u215, u216, u217, u218, u219, u220, u221, u222, u223, u224, u225, u226, u227, u228, u229, u230, u231, u232, u233, u234, u235, u236, u237, u238, u239, u240, u241, u242, u243, u244, u245, u246, u247, u248, u249, u250, u251, u252, u253, u254, u255, u256, u257, u258, u259, u260, u261, u262, u263, u264, u265, u266, u267, u268, u269, u270, u271, u272, u273, u274, u275, u276, u277, u278, u279, u280, u281, u282, u283, c284, c285], []⟩ wr := by
 obtain ⟨hL, hg, hcap, hlen, hL2, DD⟩ := X
 have HD := Lib.hid DD
 obtain ⟨F6a, F6b, F7a, F7b⟩ := DD.far
 have hab := DD.dab
 have hab' := DD.dab.symm
 clear DD
 have hLp : (1 : Int) ≤ L := by omega
 have hcapp : (L : Int) ≤ cap := by omega
 have hc2 : (2 : Int) ≤ cap := by omega
 simp only [List.length_cons] at hqk hqg
 have hkL : (k : Int) < L - 1 := by omega
 have hkL' : ¬ ((L : Int) - 1 ≤ k) := by omega
 obtain ⟨hi0, hi1⟩ := HACC.out.2 0 i rfl
 have HACC1 := Lib.hid HACC.out.tail
 have hi2 := (ST.out.old.cell (p := ⟨g, k + 1 + 0, none⟩) hg).trans hi0
 rw [Nat.add_zero, Nat.add_comm] at hi2
 have gl := Nat.lt_of_lt_of_le hg ST.out.old.size
 clear hi0 HACC
 have H_hin := Lib.hid hin
 clear hin
 have H_h0 := Lib.hid h0
 clear h0
 have H_hfp := Lib.hid hfp
 clear hfp
 have H_hbb := Lib.hid hbb
 clear hbb
 have H_hre := Lib.hid hre
 clear hre
 have H_ha1 := Lib.hid ha1
 clear ha1
 have H_ha2 := Lib.hid ha2
 clear ha2
 have RA : Hid (Rep wr Nowhere pa (.comp un nm sz n pn py xa xb)) := Lib.hid (ST.out.ta.old ST.out.old)
 have TA : Hid (Rep W Nowhere pa (.comp un nm sz n pn py xa xb)) := Lib.hid ST.out.ta
 have TB : Hid (Rep W Nowhere pb (.comp un2 nm2 sz2 n2 pn2 py2 xa2 xb2)) := Lib.hid ST.out.tb
 have hcm := composite_any RA.out
 have pal := RA.out.lt
 rw [isC_comp] at hcm
 obtain ⟨pv, pxs, pc, hblk, hown, hrow, hrep⟩ := TA.out.comp_inv
 obtain ⟨sa, scap, rfl⟩ := own_slice hown
 obtain ⟨_, _, _, _, _, c5W⟩ := hblk.six
 have HC5 := Lib.hid (fun (W' : World) (hW : Below W.heap.size W W') => (hW.cell (p := ⟨pa, 5, none⟩) hblk.lt).trans c5W)
 have c5 := HC5.out _ ST.out.old
 clear c5W
 obtain ⟨hsz, hn20, hpp, hyy, haa⟩ := ST.out.oka.parts
 have HO := Lib.hid hown
 have HRW := Lib.hid hrow
 have HRP := Lib.hid hrep
 have HPP := Lib.hid hpp
 have HYY := Lib.hid hyy
 have HAA := Lib.hid haa
 clear hblk hown hrow hrep hpp hyy haa hsz
 obtain ⟨ea0, ea1, ea2, ea3⟩ := ST.out.ba.four
 have xal := ST.out.ba.lt
 conv => arg 2; whnf
 go_wp2_with fail
 refine hcm.mono ?_
 rintro e wB ⟨rfl, rfl⟩
 clear hcm
 have hin := H_hin.out
 have hinI : ¬ (n : Int) ≤ i := by omega
 have hil : i < n := by omega
 obtain ⟨sg, scap', hse, -⟩ := own_form HO.out (by omega)
 simp only [Value.slice.injEq] at hse
 obtain ⟨rfl, -, rfl⟩ := hse
 have HOw := CellsKept.own (CellsKept.below ST.out.old) HO.out
 obtain ⟨q0, q1, q2, q3, q4⟩ := row_cells HOw (HRW.out i hil)
 have lg := (HOw.lt sg rfl).2
 have hxa : xa i ≤ 400000 := Nat.le_trans (HPP.out i hil).1 (by decide)
 have HTJ := Lib.hid (HRP.out i hil)
 have HOJ := Lib.hid (HYY.out i hil)
 clear HOw
 have h0 := H_h0.out
 have x1 := name_full2 h0
 have Hnz := Lib.hid h0
 have Hin := Lib.hid hin
 clear h0 hin
 have HCB := Lib.hid (fun (W' : World) (hW : Below W.heap.size W W') => composite_any (TB.out.old hW))
 obtain ⟨eb0, eb1, eb2, eb3⟩ := ST.out.bb.four
 have xbl := ST.out.bb.lt
 go_wp2_with fail
 obtain ⟨pk, hpk⟩ : ∃ z, z = wB.heap.size := ⟨_, rfl⟩
 obtain ⟨wP, hwP⟩ : ∃ z : World, z = wB.alloc (.cells #[.string (pn i), .pointer (some ⟨pc i, 0, none⟩), .int .i64 (xa i : Nat), .int .i64 (xb i : Nat), .int .i64 0] 56) := ⟨_, rfl⟩
 rw [← hpk, ← hwP]
 have hbP : Below wB.heap.size wB wP := by rw [hwP]; exact (Below.refl _ _).alloc (Nat.le_refl _) _
 have hpb : Blk wP pk #[.string (pn i), .pointer (some ⟨pc i, 0, none⟩), .int .i64 (xa i : Nat), .int .i64 (xb i : Nat), .int .i64 0] 56 := by rw [hwP, hpk]; exact Blk.new _ _ _
 have hpkw : wB.heap.size = pk := hpk.symm
 have STP := Lib.hid (ST.out.below hbP (Nat.le_refl _))
 have HPB := Lib.hid hpb
 have hcb := HCB.out wP STP.out.old
 have HLL : Hid (ra < pk ∧ rb < pk) := Lib.hid ⟨by have := ST.out.ba.lt; omega, by have := ST.out.bb.lt; omega⟩
 clear ea0 ea1 ea2 ea3 eb0 eb1 eb2 eb3 xbl q0 q1 q2 q3 q4 xal hwP x1 hpk hbP hpb hpkw
 have gl := Nat.lt_of_lt_of_le hg STP.out.old.size
 rw [isC_comp] at hcb
 refine hcb.mono ?_
 rintro e w5 ⟨rfl, rfl⟩
 obtain ⟨wP, rfl⟩ : ∃ z : World, z = w5 := ⟨_, rfl⟩
 clear hcb
 obtain ⟨p0, p1, p2, p3, p4⟩ := HPB.out.five
 obtain ⟨eb0, eb1, eb2, eb3⟩ := STP.out.bb.four
 have xbl := STP.out.bb.lt
 have pl := HPB.out.lt
 have HPN := Lib.hid (partNamed_any (nm := pn i) (TB.out.fresh STP.out.old) STP.out.okb.shp)
 go_wp2_with fail
 refine HPN.out.mono ?_
 rintro e w6 ⟨hnd, hb6⟩
 clear HPN p0 p1 p2 p3 p4 eb0 eb1 eb2 eb3 xbl pl
 have ST6 := Lib.hid (STP.out.below hb6 (Nat.le_refl _))
 have HPB6 := Lib.hid (HPB.out.old hb6)
 have STP6 := Lib.hid STP.out.old
 clear STP HPB
 have hfp := H_hfp.out
 rw [hfp] at hnd
 obtain ⟨pq, rfl, hrq⟩ := hnd
 obtain ⟨hoh, hph, hah⟩ := findP_ok ST6.out.okb hfp
 have HRQ := Lib.hid (hrq.back STP6.out)
 have HOH := Lib.hid hoh
 have HFP := Lib.hid hfp
 clear hrq hfp hb6 hoh hph STP6
 obtain ⟨p0, p1, p2, p3, p4⟩ := HPB6.out.five
 obtain ⟨eb0, eb1, eb2, eb3⟩ := ST6.out.bb.four
 have c5 := (HC5.out w6 ST6.out.old)
 have pl := HPB6.out.lt
 have xbl := ST6.out.bb.lt
 have pal := Nat.lt_of_lt_of_le TA.out.lt ST6.out.old.size
 go_upto_region 24 with fail
 obtain ⟨qk, hpk⟩ : ∃ z, z = w6.heap.size := ⟨_, rfl⟩
 obtain ⟨wQ, hwP⟩ : ∃ z : World, z = w6.alloc (.cells #[.string (pn i), .pointer (some ⟨pq, 0, none⟩), .int .i64 (h.at_ : Nat), .int .i64 (h.bits : Nat), .int .i64 0] 56) := ⟨_, rfl⟩
 rw [← hpk, ← hwP]
 have hbP : Below w6.heap.size w6 wQ := by rw [hwP]; exact (Below.refl _ _).alloc (Nat.le_refl _) _
 have hpb : Blk wQ qk #[.string (pn i), .pointer (some ⟨pq, 0, none⟩), .int .i64 (h.at_ : Nat), .int .i64 (h.bits : Nat), .int .i64 0] 56 := by rw [hwP, hpk]; exact Blk.new _ _ _
 have STQ := Lib.hid (ST6.out.below hbP (Nat.le_refl _))
 have HPQ := Lib.hid (HPB6.out.old hbP)
 have HQB := Lib.hid hpb
 have HKL : Hid (ra < qk ∧ rb < qk ∧ pk ≠ qk) := Lib.hid ⟨by have := ST6.out.ba.lt; omega, by have := ST6.out.bb.lt; omega, by have := HPB6.out.lt; omega⟩
 have hrr : ao ≤ 60000000 + k * 100000 ∧ bo ≤ 60000000 + k * 100000 := ST6.out.bnd
 clear p0 p1 p2 p3 p4 eb0 eb1 eb2 eb3 pl xbl c5 pal hwP hpk hbP hpb HPB6 ST6
 obtain ⟨p0, p1, p2, p3, p4⟩ := HPQ.out.five
 obtain ⟨r0, r1, r2, r3, r4⟩ := HQB.out.five
 have pl := HPQ.out.lt
 have rl := HQB.out.lt
 have HXA := Lib.hid hxa
 have HAH := Lib.hid hah
 have hbb := H_hbb.out
 go_cut [123] (fun s123 wx => s123 = .bool false ∧ wx = wQ)
 case first =>
  by_cases hx0 : xb i = 0
  ·have hh : ¬ ((h.bits : Nat) : Int) = 0 := by omega
   rw [hx0] at p3
   clear hbb hx0
   go_wp2_with fail
   go_meet
   exact ⟨congrArg Value.bool (beq_eq_false_iff_ne.2 hh), rfl⟩
  ·have hx : ¬ ((xb i : Nat) : Int) = 0 := by omega
   clear hbb hx0
   go_wp2_with fail
   go_meet
   exact ⟨rfl, rfl⟩
 case rest =>
  obtain ⟨rfl, hwc⟩ := hcut
  subst hwc
  obtain ⟨wQ, rfl⟩ : ∃ z : World, z = wc := ⟨_, rfl⟩
  have HBB := Lib.hid hbb
  have HAL1 := Lib.hid (fun (W' : World) (hW : Below W.heap.size W W') => align_any (py i).cnt (Nat.le_refl _) (HTJ.out.old hW))
  have HAL2 := Lib.hid (fun (W' : World) (hW : Below W.heap.size W W') => align_any h.y.cnt (Nat.le_refl _) (HRQ.out.old hW))
  clear hbb
  have hre := H_hre.out
  have hr0 : rest.length = 0 := by rw [List.isEmpty_iff] at hre; rw [hre]; rfl
  have hlt1 : ¬ (k : Int) + 1 < (L : Int) - 1 := by omega
  have hal1 := HAL1.out wQ STQ.out.old
  have hal2 := HAL2.out wQ STQ.out.old
  have HRE := Lib.hid hre
  clear hre hr0 HAL1 HAL2
  have ha1 := H_ha1.out
  have hz1 : (((al (py i) : Nat) : Int) == 0) = false := beq_eq_false_iff_ne.2 (by omega)
  have ha2 := H_ha2.out
  rw [ha2] at hal2
  have HRES : Hid (R = (⟨.comp un nm sz n pn py xa xb, ao, ab, af, (.comp un2 nm2 sz2 n2 pn2 py2 xa2 xb2), bo, bbi, bf⟩, .wrong)) := Lib.hid (HRR.out.trans (fieldGo_stop (by
   unfold stepF; simp only [if_neg Hin.out, if_neg Hnz.out, HFP.out, if_neg HBB.out, HRE.out, Bool.true_eq_false, ↓reduceIte, if_pos (Or.inr (a := al (py i) = 0) ha2)])))
  clear ha1 ha2
  go_wp2_with fail
  refine hal1.mono ?_
  rintro e w7 ⟨rfl, rfl⟩
  obtain ⟨wQ, rfl⟩ : ∃ z : World, z = w7 := ⟨_, rfl⟩
  clear hal1
  go_wp2_with fail
  refine hal2.mono ?_
  rintro e w7 ⟨rfl, rfl⟩
  obtain ⟨wQ, rfl⟩ : ∃ z : World, z = w7 := ⟨_, rfl⟩
  clear hal2 hah hxa HPP HYY HAA
  go_upto_region 29 with fail
  clear p0 p1 p2 p3 p4 r0 r1 r2 r3 r4 pl rl
  obtain ⟨ea0, ea1, ea2, ea3⟩ := STQ.out.ba.four
  obtain ⟨eb0, eb1, eb2, eb3⟩ := STQ.out.bb.four
  have k60 := STQ.out.b6.free 0
  have k61 := STQ.out.b6.free 1
  have k62 := STQ.out.b6.free 2
  have k63 := STQ.out.b6.free 3
  have k70 := STQ.out.b7.free 0
  have k71 := STQ.out.b7.free 1
  have k72 := STQ.out.b7.free 2
  have k73 := STQ.out.b7.free 3
  have k6l := STQ.out.b6.lt
  have k7l := STQ.out.b7.lt
  obtain ⟨z60, z61, z62, z63⟩ := STQ.out.b6.four
  obtain ⟨z70, z71, z72, z73⟩ := STQ.out.b7.four
  have xal := STQ.out.ba.lt
  have xbl := STQ.out.bb.lt
  have d67 := HD.out.d67
  have d76 := HD.out.d67.symm
  have f6a := F6a.out
  have f6b := F6b.out
  have f7a := F7a.out
  have f7b := F7b.out
  apply wp_meet0 (fun w' => Hid (FEnd W z6 z7 pa ao ab af pb bo bbi bf w'))
  case h1 =>
   refine AnyR.start (wr := [3, 2]) (rd := (fun cls => match cls with | 0 => [0, 1] | 1 => [4] | _ + 2 => [])) (Sf := (fun cls w' => match cls with | 0 => w'.cell? ⟨ra, 0, none⟩ = some (.pointer (some ⟨pa, 0, none⟩)) ∧ w'.cell? ⟨ra, 1, none⟩ = some (.int .i64 (ao : Nat)) ∧ w'.cell? ⟨ra, 2, none⟩ = some (.int .i64 (ab : Nat)) ∧ w'.cell? ⟨ra, 3, none⟩ = some (.int .i64 (af : Nat)) ∧ w'.cell? ⟨rb, 0, none⟩ = some (.pointer (some ⟨pb, 0, none⟩)) ∧ w'.cell? ⟨rb, 1, none⟩ = some (.int .i64 (bo : Nat)) ∧ w'.cell? ⟨rb, 2, none⟩ = some (.int .i64 (bbi : Nat)) ∧ w'.cell? ⟨rb, 3, none⟩ = some (.int .i64 (bf : Nat)) | 1 => True | _ + 2 => True)) (by as_aux_lemma => kernel_rfl) (fun cls => match cls with | 0 => ⟨ea0, ea1, ea2, ea3, eb0, eb1, eb2, eb3⟩ | 1 => trivial | _ + 2 => trivial) (fun hHeld => ?_)
   refine AnyR.tk (i := 0) 0 (v := ?_) rfl (by as_aux_lemma => kernel_rfl) (fun _ _ _ h => h) hHeld (by rfl) ?_ ?_
   rotate_left
   focus (intro w hSw0; have hSw : (fun w' : World => w'.cell? ⟨ra, 0, none⟩ = some (.pointer (some ⟨pa, 0, none⟩)) ∧ w'.cell? ⟨ra, 1, none⟩ = some (.int .i64 (ao : Nat)) ∧ w'.cell? ⟨ra, 2, none⟩ = some (.int .i64 (ab : Nat)) ∧ w'.cell? ⟨ra, 3, none⟩ = some (.int .i64 (af : Nat)) ∧ w'.cell? ⟨rb, 0, none⟩ = some (.pointer (some ⟨pb, 0, none⟩)) ∧ w'.cell? ⟨rb, 1, none⟩ = some (.int .i64 (bo : Nat)) ∧ w'.cell? ⟨rb, 2, none⟩ = some (.int .i64 (bbi : Nat)) ∧ w'.cell? ⟨rb, 3, none⟩ = some (.int .i64 (bf : Nat))) w := hSw0; clear hSw0; (try dsimp only at hSw); go_simp <;> with_reducible rfl)
   clear hHeld
   intro hHeld
   try simp only [Act.put, zl1, zl2, zl3, zl4, zl5, zl6]
   refine AnyR.tk (i := 1) 0 (v := ?_) rfl (by as_aux_lemma => kernel_rfl) (fun _ _ _ h => h) hHeld (by rfl) ?_ ?_
   rotate_left
   focus (intro w hSw0; have hSw : (fun w' : World => w'.cell? ⟨ra, 0, none⟩ = some (.pointer (some ⟨pa, 0, none⟩)) ∧ w'.cell? ⟨ra, 1, none⟩ = some (.int .i64 (ao : Nat)) ∧ w'.cell? ⟨ra, 2, none⟩ = some (.int .i64 (ab : Nat)) ∧ w'.cell? ⟨ra, 3, none⟩ = some (.int .i64 (af : Nat)) ∧ w'.cell? ⟨rb, 0, none⟩ = some (.pointer (some ⟨pb, 0, none⟩)) ∧ w'.cell? ⟨rb, 1, none⟩ = some (.int .i64 (bo : Nat)) ∧ w'.cell? ⟨rb, 2, none⟩ = some (.int .i64 (bbi : Nat)) ∧ w'.cell? ⟨rb, 3, none⟩ = some (.int .i64 (bf : Nat))) w := hSw0; clear hSw0; (try dsimp only at hSw); go_simp <;> with_reducible rfl)
   clear hHeld
   intro hHeld
   try simp only [Act.put, zl1, zl2, zl3, zl4, zl5, zl6]
   refine AnyR.one (i := 2) (by as_aux_lemma => kernel_rfl) rfl (fun K hK => ?_)
   go_simp
   refine hK.out _ _ (fun cls => match cls with | 0 => .inr (by simp only [World.cell?_drew, f6a, f6b, f7a, f7b, ea0, ea1, ea2, ea3, eb0, eb1, eb2, eb3, and_self]) | 1 => .inr trivial | _ + 2 => .inr trivial) (fun hHeld => ?_)
   clear hK K
   try simp only [Act.put, zl1, zl2, zl3, zl4, zl5, zl6]
   refine AnyR.one (i := 3) (by as_aux_lemma => kernel_rfl) rfl (fun K hK => ?_)
   go_simp
   refine hK.out _ _ (fun cls => match cls with | 0 => .inr (by simp only [World.cell?_drew, f6a, f6b, f7a, f7b, ea0, ea1, ea2, ea3, eb0, eb1, eb2, eb3, and_self]) | 1 => .inr trivial | _ + 2 => .inr trivial) (fun hHeld => ?_)
   clear hK K
   try simp only [Act.put, zl1, zl2, zl3, zl4, zl5, zl6]
   refine AnyR.tk (i := 4) 1 (v := ?_) rfl (by as_aux_lemma => kernel_rfl) (fun _ _ _ h => h) hHeld (by rfl) ?_ ?_
   rotate_left
   focus (intro w h; clear h; go_simp <;> with_reducible rfl)
   clear hHeld
   intro hHeld
   try simp only [Act.put, zl1, zl2, zl3, zl4, zl5, zl6]
   refine AnyR.end_ (by as_aux_lemma => kernel_rfl) ?_
   exact ⟨Lib.hid (STQ.out.fend HD.out), rfl⟩
  case h2 =>
   intro w4 FE
   clear ea0 ea1 ea2 ea3 eb0 eb1 eb2 eb3 k60 k61 k62 k63 k70 k71 k72 k73 k6l k7l z60 z61 z62 z63 z70 z71 z72 z73 xal xbl d67 d76 f6a f6b f7a f7b
   obtain ⟨y0, y1, y2, y3⟩ := FE.out.b6.four
   obtain ⟨x0, x1, x2, x3⟩ := FE.out.b7.four
   have yl := FE.out.b6.lt
   have xl := FE.out.b7.lt
   go_wp2_with fail
   refine bodyPost_ret (v := .tuple #[fldV pa ao ab af, fldV pb bo bbi bf, .int .i64 2]) ?_ rfl ⟨pa, pb, by rw [HRES.out]; rfl, by rw [HRES.out]; exact STQ.out.ta, by rw [HRES.out]; exact STQ.out.tb, by rw [HRES.out]; exact STQ.out.oka, by rw [HRES.out]; exact STQ.out.okb, FE.out.old⟩
   rw [results_cct rfl]
   unfold fldV
   go_simp
end
end Go.Proofs.YtfilbgmbmlmdbaaGreatDoor
