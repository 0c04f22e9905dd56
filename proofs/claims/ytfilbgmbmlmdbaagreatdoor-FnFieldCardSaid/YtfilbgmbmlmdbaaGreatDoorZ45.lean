/- Whether an accessor ends at a part with a name: the walk. Nothing is claimed here. -/
import Derived.Test.YtfilbgmbmlmdbaaGreatDoorZ43
import Derived.Test.YtfilbgmbmlmdbaaGreatDoorZ44
import Derived.Test.YtfilbgmbmlmdbaaGreatDoorZ16
set_option linter.unusedSimpArgs false
set_option linter.unusedVariables false
set_option maxRecDepth 1000000
set_option maxHeartbeats 16000000
namespace Go.Proofs.YtfilbgmbmlmdbaaGreatDoor
open Go.RowKit Go.MapKept
theorem size_nil {a : ByteArray} (h : a.size = 0) : a = ⟨#[]⟩ := by
 obtain ⟨⟨l⟩⟩ := a
 cases l with
 | nil => rfl
 | cons a r => cases h
def EndsR (W : World) (e : Ending) (w' : World) : Prop := ∃ B, e = .returned (.bool B) ∧ Below W.heap.size W w'
theorem ends_any {W : World} {b g L cap n0 : Nat} {t : Ty} {p : List Nat} (r : Rep W Nowhere b t) (ok : FOk t) (hacc : Acc W g L (n0 :: p) 0) (hL : L ≤ 5) (hg : g < W.heap.size) (hcap : L ≤ cap) (hv : onP p t) :
  Calls Tryz.prog 10 #[.pointer (some ⟨b, 0, none⟩), .slice (some ⟨g, 0, none⟩) L cap] W (EndsR W) := by
 have hlen := hacc.1
 simp only [List.length_cons, Nat.add_zero] at hlen
 have lb := r.lt
 have HR := Lib.hid r
 have HOK := Lib.hid ok
 have HA := Lib.hid hacc.tail
 have HV := Lib.hid hv
 clear r ok hacc hv
 by_cases hL1 : L = 1
 ·subst hL1
  rcases (by omega : cap = 1 ∨ 2 ≤ cap) with rfl | hc2
  ·go_enter Tryz.func10, Tryz.ntmps10
   go_wp2_with fail
   go_loopg [6, 17] 0 (fun gk s6 s17 wr => s6 = .bool false ∧ s17 = .int .i64 0 ∧ wr = W)
   case atStart => exact ⟨rfl, rfl, rfl⟩
   case round =>
    obtain ⟨rfl, rfl, rfl⟩ := hrel
    go_wp2_with fail
    go_ret
    exact ⟨_, rfl, Below.refl _ _⟩
  ·have c2 : (2 : Int) ≤ cap := by omega
   go_enter Tryz.func10, Tryz.ntmps10
   go_wp2_with fail
   go_loopg [6, 17] 0 (fun gk s6 s17 wr => s6 = .bool false ∧ s17 = .int .i64 0 ∧ wr = W)
   case atStart => exact ⟨rfl, rfl, rfl⟩
   case round =>
    obtain ⟨rfl, rfl, rfl⟩ := hrel
    go_wp2_with fail
    go_ret
    exact ⟨_, rfl, Below.refl _ _⟩
 ·have hL2 : 2 ≤ L := by omega
  have hLp : (1 : Int) ≤ L := by omega
  have hcapp : (L : Int) ≤ cap := by omega
  have hc2 : (2 : Int) ≤ cap := by omega
  have hL2i : (2 : Int) ≤ L := by omega
  go_enter Tryz.func10, Tryz.ntmps10
  go_wp2_with fail
  obtain ⟨wA, rfl⟩ : ∃ wA : World, wA = W := ⟨_, rfl⟩
  go_loopg [5, 6, 17] (L - 1) (fun gk s5 s6 s17 wr => ∃ (i c : Nat) (q : List Nat) (u : Ty) (B : Bool), q.length ≤ gk ∧ s17 = .int .i64 (i : Int) ∧ s5 = .pointer (some ⟨c, 0, none⟩) ∧ s6 = .bool B ∧ Hid (Acc wA g L q (i + 1)) ∧ Hid (onP q u) ∧ Hid (Rep wA Nowhere c u ∧ FOk u) ∧ Hid (Below wA.heap.size wA wr))
  case atStart => exact ⟨0, b, p, t, _, by omega, rfl, rfl, rfl, HA, HV, Lib.hid ⟨HR.out, HOK.out⟩, Lib.hid (Below.refl _ _)⟩
  case round =>
   obtain ⟨i, c, q, u, B, hgk, rfl, rfl, rfl, ACC, VAL, RU, OLD⟩ := hrel
   have hql := ACC.out.1
   cases q with
   | nil =>
    simp only [List.length_nil] at hql
    have hii : ¬ (i : Int) < ((L - 1 : Nat) : Int) := by omega
    have hii2 : ¬ i < L - 1 := by omega
    clear hql
    go_wp2_with fail
    go_ret
    exact ⟨_, rfl, OLD.out⟩
   | cons j q =>
    simp only [List.length_cons] at hql hgk
    have hii : (i : Int) < ((L - 1 : Nat) : Int) := by omega
    have hii2 : i < L - 1 := by omega
    obtain ⟨hi0, hj5⟩ := ACC.out.2 0 j rfl
    have hi2 := (OLD.out.cell (p := ⟨g, i + 1 + 0, none⟩) hg).trans hi0
    rw [Nat.add_zero, Nat.add_comm] at hi2
    have gl := Nat.lt_of_lt_of_le hg OLD.out.size
    have ACC1 := Lib.hid ACC.out.tail
    have rw_ := RU.out.1.old OLD.out
    have lcw := rw_.lt
    have hqg : q.length < gk := by omega
    clear hi0 ACC hql
    rcases rw_.three with ⟨un, tn, sz, nn, pn, py, pa, pbb, rfl⟩ | ⟨mm, u2, c2, rfl, k0, k2, k4, r2⟩ | ⟨K, hnc, k0, hk3, hna, -⟩
    ·obtain ⟨pv, pxs, pc, hblk, hown, hrow, hrep⟩ := RU.out.1.comp_inv
     obtain ⟨sa, scap, rfl⟩ := own_slice hown
     obtain ⟨c0, _, _, _, _, c5⟩ := (hblk.old OLD.out).six
     obtain ⟨hjn, hon⟩ := VAL.out
     have HON := Lib.hid hon
     obtain ⟨-, -, -, hyy, haa⟩ := RU.out.2.parts
     have hji : (j : Int) < nn := by omega
     obtain ⟨g1', c1', e1, -⟩ := own_form hown (by omega)
     simp only [Value.slice.injEq] at e1
     obtain ⟨rfl, -, rfl⟩ := e1
     have H1w := CellsKept.own (CellsKept.below OLD.out) hown
     obtain ⟨f0, f1, f2, f3, f4⟩ := row_cells H1w (hrow j hjn)
     have lg := (H1w.lt g1' rfl).2
     have HY := Lib.hid (hyy j hjn)
     have HAA := Lib.hid (haa j hjn)
     have HREP := Lib.hid (hrep j hjn)
     have NOLD := Lib.hid (OLD.out.alloc OLD.out.size (.cells #[.string (pn j), .pointer (some ⟨pc j, 0, none⟩), .int .i64 (pa j : Nat), .int .i64 (pbb j : Nat), .int .i64 0] 56))
     clear H1w rw_ hblk hown hrow hrep hyy haa hon
     by_cases hz0 : (pn j).size = 0
     ·have hnm := size_nil hz0
      obtain ⟨b', l⟩ := leads_any (py j).layers (Nat.le_refl _) HREP.out
      have HLD := Lib.hid l
      have OKB : Hid (FOk (py j).behind) := by
       obtain ⟨-, -, un', nm', sz', n', pn', py', pa', pb', e', -⟩ := HAA.out hz0
       have := HY.out
       rw [e'] at this ⊢
       exact Lib.hid this
      rw [if_pos hz0] at HON
      rw [hnm] at f0 NOLD
      clear l
      cases un
      all_goals
       go_wp2_with fail
       go_quiet (fail)
       go_wp2_with fail
       refine (leads_calls (HLD.out.old (below_drewN NOLD.out _))).mono ?_
       rintro e w5 ⟨rfl, rfl⟩
       go_wp2_with fail
       go_roundg q.length
       case measure => exact hqg
       case rel => exact ⟨i + 1, b', q, _, _, Nat.le_refl _, by go_num, rfl, rfl, ACC1, HON, Lib.hid ⟨HLD.out.rep, OKB.out⟩, Lib.hid (below_drewN NOLD.out _)⟩
     ·have hnf := name_full2 hz0
      rw [if_neg hz0] at HON
      cases un
      all_goals
       go_wp2_with fail
       go_quiet (fail)
       go_wp2_with fail
       go_roundg q.length
       case measure => exact hqg
       case rel => exact ⟨i + 1, pc j, q, _, _, Nat.le_refl _, by go_num, rfl, rfl, ACC1, HON, Lib.hid ⟨HREP.out, HY.out⟩, Lib.hid (below_drewN NOLD.out _)⟩
    ·obtain ⟨c3, -, -, h4, r3⟩ := RU.out.1.elem
     have h4w := (OLD.out.cell (p := ⟨c, 4, none⟩) RU.out.1.lt).trans h4
     have R3 := Lib.hid r3
     clear k4 r2 rw_ h4 r3
     go_wp2_with fail
     go_roundg q.length
     case measure => exact hqg
     case rel => exact ⟨i + 1, c3, q, u2, _, Nat.le_refl _, by go_num, rfl, rfl, ACC1, VAL, Lib.hid ⟨R3.out, .leaf (.int RU.out.2.arr.1)⟩, OLD⟩
    ·exact absurd VAL.out (by
      cases u with
      | comp un => cases un <;> cases hnc
      | arr m u => exact absurd rfl (hna m u)
      | _ => exact id)
theorem PathOk.one {W w : World} {t : Ty} {n0 : Nat} (h0 : n0 ≤ 255) (hb : Blk w W.heap.size #[.int .i64 (n0 : Nat)] 3) (ho : Below W.heap.size W w) : PathOk W t (.returned (.slice (some ⟨W.heap.size, 0, none⟩) 1 1)) w :=
 ⟨⟨W.heap.size, 1, 1, n0, [], rfl, ⟨rfl, fun i x hi => by
  cases i with
  | zero => cases hi; exact ⟨hb.cell 0, h0⟩
  | succ i => cases hi⟩, by omega, Nat.le_refl _, hb.lt, Nat.le_refl _, trivial⟩, ho⟩
theorem path_all {W : World} {b n cap : Nat} {t : Ty} {a : Option Addr} (r : Rep W Nowhere b t) (ok : FOk t) (hp : U8s W (.slice a n cap) n) :
  Calls Tryz.prog 9 #[.pointer (some ⟨b, 0, none⟩), .slice a n cap] W (PathOk W t) := by
 by_cases h2 : 2 ≤ n
 ·exact path_any r ok hp h2
 ·obtain ⟨a', cap', e, hcap, hp⟩ := hp
  simp only [Value.slice.injEq, true_and] at e
  obtain ⟨rfl, rfl⟩ := e
  have lb := r.lt
  clear r ok
  rcases (by omega : n = 0 ∨ n = 1) with rfl | rfl
  ·have ONE := Lib.hid (PathOk.one (t := t) (n0 := 0) (by omega) (Blk.new W #[.int .i64 0] 3) ((Below.refl _ _).alloc (Nat.le_refl _) _))
   clear hp
   rcases Nat.eq_zero_or_pos cap with rfl | hc0
   ·go_enter Tryz.func9, Tryz.ntmps9
    go_wp2_with fail
    go_loopg [5, 41] 0 (fun gk s5 s41 wr => s5 = .slice (some ⟨W.heap.size, 0, none⟩) 1 1 ∧ s41 = .int .i64 0 ∧ Hid (PathOk W t (.returned (.slice (some ⟨W.heap.size, 0, none⟩) 1 1)) wr))
    case atStart => exact ⟨rfl, rfl, ONE⟩
    case round =>
     obtain ⟨rfl, rfl, DONE⟩ := hrel
     go_wp2_with fail
     go_ret
     exact DONE.out
   ·have hc0i : (0 : Int) < cap := by omega
    go_enter Tryz.func9, Tryz.ntmps9
    go_wp2_with fail
    go_loopg [5, 41] 0 (fun gk s5 s41 wr => s5 = .slice (some ⟨W.heap.size, 0, none⟩) 1 1 ∧ s41 = .int .i64 0 ∧ Hid (PathOk W t (.returned (.slice (some ⟨W.heap.size, 0, none⟩) 1 1)) wr))
    case atStart => exact ⟨rfl, rfl, ONE⟩
    case round =>
     obtain ⟨rfl, rfl, DONE⟩ := hrel
     go_wp2_with fail
     go_ret
     exact DONE.out
  ·rcases hp with hp | ⟨pb, off, rfl, hpb, hc⟩
   ·omega
   obtain ⟨z, hz, hz8⟩ := hc 0 (by omega)
   rw [Nat.add_zero] at hz
   have hzi : (z : Int) < 256 := by omega
   obtain ⟨y, hy, hy2⟩ : ∃ y : Nat, (z : Int) / 16 % 3 = (y : Int) ∧ y ≤ 2 := ⟨z / 16 % 3, by omega, by omega⟩
   have hyi : (y : Int) ≤ 2 := by omega
   have hyj : (0 : Int) ≤ y := by omega
   have ONE0 := Lib.hid (PathOk.one (t := t) (n0 := 0) (by omega) (Blk.new W #[.int .i64 0] 3) ((Below.refl _ _).alloc (Nat.le_refl _) _))
   have ONE1 : Hid (PathOk W t (.returned (.slice (some ⟨W.heap.size, 0, none⟩) 1 1)) (W.alloc (.cells #[.int .i64 (1 + (y : Int))] 3))) := Lib.hid (PathOk.one (t := t) (n0 := 1 + y) (by omega) (by rw [show ((1 + y : Nat) : Int) = 1 + (y : Int) by omega]; exact Blk.new _ _ _) ((Below.refl _ _).alloc (Nat.le_refl _) _))
   obtain ⟨B, hB⟩ : ∃ B, ((z : Int) % 16 == 1) = B := ⟨_, rfl⟩
   clear hc
   rcases (by omega : cap = 1 ∨ 2 ≤ cap) with rfl | hc2
   ·cases B with
    | false =>
     go_enter Tryz.func9, Tryz.ntmps9
     go_wp2_with fail
     go_loopg [5, 41] 0 (fun gk s5 s41 wr => s5 = .slice (some ⟨W.heap.size, 0, none⟩) 1 1 ∧ s41 = .int .i64 0 ∧ Hid (PathOk W t (.returned (.slice (some ⟨W.heap.size, 0, none⟩) 1 1)) wr))
     case atStart => exact ⟨rfl, rfl, ONE0⟩
     case round =>
      obtain ⟨rfl, rfl, DONE⟩ := hrel
      go_wp2_with fail
      go_ret
      exact DONE.out
    | true =>
     go_enter Tryz.func9, Tryz.ntmps9
     go_wp2_with fail
     go_loopg [5, 41] 0 (fun gk s5 s41 wr => s5 = .slice (some ⟨W.heap.size, 0, none⟩) 1 1 ∧ s41 = .int .i64 0 ∧ Hid (PathOk W t (.returned (.slice (some ⟨W.heap.size, 0, none⟩) 1 1)) wr))
     case atStart => exact ⟨rfl, rfl, ONE1⟩
     case round =>
      obtain ⟨rfl, rfl, DONE⟩ := hrel
      go_wp2_with fail
      go_ret
      exact DONE.out
   ·have c2 : (2 : Int) ≤ cap := by omega
    cases B with
    | false =>
     go_enter Tryz.func9, Tryz.ntmps9
     go_wp2_with fail
     go_loopg [5, 41] 0 (fun gk s5 s41 wr => s5 = .slice (some ⟨W.heap.size, 0, none⟩) 1 1 ∧ s41 = .int .i64 0 ∧ Hid (PathOk W t (.returned (.slice (some ⟨W.heap.size, 0, none⟩) 1 1)) wr))
     case atStart => exact ⟨rfl, rfl, ONE0⟩
     case round =>
      obtain ⟨rfl, rfl, DONE⟩ := hrel
      go_wp2_with fail
      go_ret
      exact DONE.out
    | true =>
     go_enter Tryz.func9, Tryz.ntmps9
     go_wp2_with fail
     go_loopg [5, 41] 0 (fun gk s5 s41 wr => s5 = .slice (some ⟨W.heap.size, 0, none⟩) 1 1 ∧ s41 = .int .i64 0 ∧ Hid (PathOk W t (.returned (.slice (some ⟨W.heap.size, 0, none⟩) 1 1)) wr))
     case atStart => exact ⟨rfl, rfl, ONE1⟩
     case round =>
      obtain ⟨rfl, rfl, DONE⟩ := hrel
      go_wp2_with fail
      go_ret
      exact DONE.out
section
variable {c0 c2 c3 c4 c5 c20 c21 c22 c23 c24 c25 c26 c27 c28 c29 c30 c31 c32 c33 c34 c35 c36 c37 c38 c39 c40 c41 c42 c43 c44 c284 c285 u8 u13 u14 u15 u16 u17 u18 u19 u48 u49 u50 u51 u52 u53 u54 u55 u56 u57 u58 u59 u60 u61 u62 u63 u64 u65 u66 u67 u68 u69 u70 u71 u72 u73 u74 u75 u76 u77 u78 u79 u80 u81 u82 u83 u84 u85 u86 u87 u88 u89 u90 u91 u92 u93 u94 u95 u96 u97 u98 u99 u100 u101 u102 u103 u104 u105 u106 u107 u108 u109 u110 u111 u112 u113 u114 u115 u116 u117 u118 u119 u120 u121 u122 u123 u124 u125 u126 u127 u128 u129 u130 u131 u132 u133 u134 u135 u136 u137 u138 u139 u140 u141 u142 u143 u144 u145 u146 u147 u148 u149 u150 u151 u152 u153 u154 u155 u156 u157 u158 u159 u160 u161 u162 u163 u164 u165 u166 u167 u168 u169 u170 u171 u172 u173 u174 u175 u176 u177 u178 u179 u180 u181 u182 u183 u184 u185 u186 u187 u188 u189 u190 u191 u192 u193 u194 u195 u196 u197 u198 u199 u200 u201 u202 u203 u204 u205 u206 u207 u208 u209 u210 u211 u212 u213 u214 u215 u216 u217 u218 u219 u220 u221 u222 u223 u224 u225 u226 u227 u228 u229 u230 u231 u232 u233 u234 u235 u236 u237 u238 u239 u240 u241 u242 u243 u244 u245 u246 u247 u248 u249 u250 u251 u252 u253 u254 u255 u256 u257 u258 u259 u260 u261 u262 u263 u264 u265 u266 u267 u268 u269 u270 u271 u272 u273 u274 u275 u276 u277 u278 u279 u280 u281 u282 u283 : Value}
theorem fld_other {W wr : World} {g L cap z6 z7 ra rb plen pa pb k i gk : Nat} {rest : List Nat} {oa ob : Bool} {R : FS × Out} {J : Nat → Act → World → Prop} {K K6 : Act → World → Prop}
  {ta tb : Ty} {ao ab af bo bbi bf : Nat} {K3 : Int} (hnC : isC ta = false) (pa0 : W.cell? ⟨pa, 0, none⟩ = some (.int .i64 K3)) (hK3 : (K3 == 3) = false) (hst : ∀ s i l, s.a = ta → stepF s i l = (s, some .wrong))
  (X : FCtx W g L cap z6 z7 ra rb plen) (hqk : (i :: rest).length + k = plen) (hqg : (i :: rest).length ≤ gk) (HACC : Hid (Acc W g L (i :: rest) (k + 1))) (ST : Hid (FSt W z6 z7 ra rb pa pb (60000000 + k * 100000) ⟨ta, ao, ab, af, tb, bo, bbi, bf⟩ wr)) (HRR : Hid (R = fieldGo (i :: rest) ⟨ta, ao, ab, af, tb, bo, bbi, bf⟩))
  (hJ : ∀ k' a' w', FInv W g L cap z6 z7 ra rb plen R c0 c2 c3 c4 c5 c20 c21 c22 c23 c24 c25 c26 c27 c28 c29 c30 c31 c32 c33 c34 c35 c36 c37 c38 c39 c40 c41 c42 c43 c44 c284 c285 k' a' w' → J k' a' w') (hK : ∀ a' w', Handed J gk a' w' → K a' w') :
  Code.wp Tryz.prog fldBody (Exit.then K (Exit.inBlock 0 (Exit.then K6 (bodyPost Tryz.prog Tryz.f11 (FRes W R))))) ⟨#[c0, .slice (some ⟨g, 0, none⟩) L cap, c2, c3, c4, c5, .pointer (some ⟨z6, 0, none⟩), .pointer (some ⟨z7, 0, none⟩), u8, .pointer (some ⟨ra, 0, none⟩), .pointer (some ⟨rb, 0, none⟩), .bool oa, .bool ob, u13, u14, u15, u16, u17, u18, u19, c20, c21, c22, c23, c24, c25, c26, c27, c28, c29, c30, c31, c32, c33, c34, c35, c36, c37, c38, c39, c40, c41, c42, c43, c44, .slice (some ⟨g, 1, none⟩) (L - 1) (cap - 1), .int .i64 ((L - 1 : Nat) : Int), .int .i64 (k : Int), u48, u49, u50, u51, u52, u53, u54, u55, u56, u57, u58, u59, u60, u61, u62, u63, u64, u65, u66, u67, u68, u69, u70, u71, u72, u73, u74, u75, u76, u77, u78, u79, u80, u81, u82, u83, u84, u85, u86, u87, u88, u89, u90, u91, u92, u93, u94, u95, u96, u97, u98, u99, u100, u101, u102, u103, u104, u105, u106, u107, u108, u109, u110, u111, u112, u113, u114, u115, u116, u117, u118, u119, u120, u121, u122, u123, u124, u125, u126, u127, u128, u129, u130, u131, u132, u133, u134, u135, u136, u137, u138, u139, u140, u141, u142, u143, u144, u145, u146, u147, u148, u149, u150, u151, u152, u153, u154, u155, u156, u157, u158, u159, u160, u161, u162, u163, u164, u165, u166, u167, u168, u169, u170, u171, u172, u173, u174, u175, u176, u177, u178, u179, u180, u181, u182, u183, u184, u185, u186, u187, u188, u189, u190, u191, u192, u193, u194, u195, u196, u197, u198, u199, u200, u201, u202, u203, u204, u205, u206, u207, u208, u209, u210, u211, u212, u213, u214, u215, u216, u217, u218, u219, u220, u221, u222, u223, u224, u225, u226, u227, u228, u229, u230, u231, u232, u233, u234, u235, u236, u237, u238, u239, u240, u241, u242, u243, u244, u245, u246, u247, u248, u249, u250, u251, u252, u253, u254, u255, u256, u257, u258, u259, u260, u261, u262, u263, u264, u265, u266, u267, u268, u269, u270, u271, u272, u273, u274, u275, u276, u277, u278, u279, u280, u281, u282, u283, c284, c285], []⟩ wr := by
 obtain ⟨hL, hg, hcap, hlen, hL2, DD⟩ := X
 have HD := Lib.hid DD
 obtain ⟨F6a, F6b, F7a, F7b⟩ := DD.far
 have hab := DD.dab
 have hab' := DD.dab.symm
 clear DD
 have hLp : (1 : Int) ≤ L := by omega
 have hcapp : (L : Int) ≤ cap := by omega
 have hc2 : (2 : Int) ≤ cap := by omega
 simp only [List.length_cons] at hqk hqg
 have hkL : (k : Int) < L - 1 := by omega
 have hkL' : ¬ ((L : Int) - 1 ≤ k) := by omega
 obtain ⟨hi0, hi1⟩ := HACC.out.2 0 i rfl
 have HACC1 := Lib.hid HACC.out.tail
 have hi2 := (ST.out.old.cell (p := ⟨g, k + 1 + 0, none⟩) hg).trans hi0
 rw [Nat.add_zero, Nat.add_comm] at hi2
 have gl := Nat.lt_of_lt_of_le hg ST.out.old.size
 clear hi0 HACC
 have RA : Hid (Rep wr Nowhere pa ta) := Lib.hid (ST.out.ta.old ST.out.old)
 have TA : Hid (Rep W Nowhere pa ta) := Lib.hid ST.out.ta
 have TB : Hid (Rep W Nowhere pb tb) := Lib.hid ST.out.tb
 have hcm := composite_any RA.out
 have pal := RA.out.lt
 rw [hnC] at hcm
 have HRES : Hid (R = (⟨ta, ao, ab, af, tb, bo, bbi, bf⟩, .wrong)) := Lib.hid (HRR.out.trans (fieldGo_stop (hst _ _ _ rfl)))
 have pa0 := (ST.out.old.cell (p := ⟨pa, 0, none⟩) TA.out.lt).trans pa0
 obtain ⟨ea0, ea1, ea2, ea3⟩ := ST.out.ba.four
 have xal := ST.out.ba.lt
 clear hnC hst
 conv => arg 2; whnf
 go_wp2_with fail
 refine hcm.mono ?_
 rintro e w5 ⟨rfl, rfl⟩
 obtain ⟨ea0, ea1, ea2, ea3⟩ := ST.out.ba.four
 obtain ⟨eb0, eb1, eb2, eb3⟩ := ST.out.bb.four
 have k60 := ST.out.b6.free 0
 have k61 := ST.out.b6.free 1
 have k62 := ST.out.b6.free 2
 have k63 := ST.out.b6.free 3
 have k70 := ST.out.b7.free 0
 have k71 := ST.out.b7.free 1
 have k72 := ST.out.b7.free 2
 have k73 := ST.out.b7.free 3
 have k6l := ST.out.b6.lt
 have k7l := ST.out.b7.lt
 obtain ⟨z60, z61, z62, z63⟩ := ST.out.b6.four
 obtain ⟨z70, z71, z72, z73⟩ := ST.out.b7.four
 have xal := ST.out.ba.lt
 have xbl := ST.out.bb.lt
 have d67 := HD.out.d67
 have d76 := HD.out.d67.symm
 have f6a := F6a.out
 have f6b := F6b.out
 have f7a := F7a.out
 have f7b := F7b.out
 go_upto_region 10 with fail
 apply wp_meet0 (fun w' => Hid (FEnd W z6 z7 pa ao ab af pb bo bbi bf w'))
 case h1 =>
  refine AnyR.start (wr := [3, 2]) (rd := (fun cls => match cls with | 0 => [0, 1] | 1 => [4] | _ + 2 => [])) (Sf := (fun cls w' => match cls with | 0 => w'.cell? ⟨ra, 0, none⟩ = some (.pointer (some ⟨pa, 0, none⟩)) ∧ w'.cell? ⟨ra, 1, none⟩ = some (.int .i64 (ao : Nat)) ∧ w'.cell? ⟨ra, 2, none⟩ = some (.int .i64 (ab : Nat)) ∧ w'.cell? ⟨ra, 3, none⟩ = some (.int .i64 (af : Nat)) ∧ w'.cell? ⟨rb, 0, none⟩ = some (.pointer (some ⟨pb, 0, none⟩)) ∧ w'.cell? ⟨rb, 1, none⟩ = some (.int .i64 (bo : Nat)) ∧ w'.cell? ⟨rb, 2, none⟩ = some (.int .i64 (bbi : Nat)) ∧ w'.cell? ⟨rb, 3, none⟩ = some (.int .i64 (bf : Nat)) | 1 => True | _ + 2 => True)) (by as_aux_lemma => kernel_rfl) (fun cls => match cls with | 0 => ⟨ea0, ea1, ea2, ea3, eb0, eb1, eb2, eb3⟩ | 1 => trivial | _ + 2 => trivial) (fun hHeld => ?_)
  refine AnyR.tk (i := 0) 0 (v := ?_) rfl (by as_aux_lemma => kernel_rfl) (fun _ _ _ h => h) hHeld (by rfl) ?_ ?_
  rotate_left
  focus (intro w hSw0; have hSw : (fun w' : World => w'.cell? ⟨ra, 0, none⟩ = some (.pointer (some ⟨pa, 0, none⟩)) ∧ w'.cell? ⟨ra, 1, none⟩ = some (.int .i64 (ao : Nat)) ∧ w'.cell? ⟨ra, 2, none⟩ = some (.int .i64 (ab : Nat)) ∧ w'.cell? ⟨ra, 3, none⟩ = some (.int .i64 (af : Nat)) ∧ w'.cell? ⟨rb, 0, none⟩ = some (.pointer (some ⟨pb, 0, none⟩)) ∧ w'.cell? ⟨rb, 1, none⟩ = some (.int .i64 (bo : Nat)) ∧ w'.cell? ⟨rb, 2, none⟩ = some (.int .i64 (bbi : Nat)) ∧ w'.cell? ⟨rb, 3, none⟩ = some (.int .i64 (bf : Nat))) w := hSw0; clear hSw0; (try dsimp only at hSw); go_simp <;> with_reducible rfl)
  clear hHeld
  intro hHeld
  try simp only [Act.put, zl1, zl2, zl3, zl4, zl5, zl6]
  refine AnyR.tk (i := 1) 0 (v := ?_) rfl (by as_aux_lemma => kernel_rfl) (fun _ _ _ h => h) hHeld (by rfl) ?_ ?_
  rotate_left
  focus (intro w hSw0; have hSw : (fun w' : World => w'.cell? ⟨ra, 0, none⟩ = some (.pointer (some ⟨pa, 0, none⟩)) ∧ w'.cell? ⟨ra, 1, none⟩ = some (.int .i64 (ao : Nat)) ∧ w'.cell? ⟨ra, 2, none⟩ = some (.int .i64 (ab : Nat)) ∧ w'.cell? ⟨ra, 3, none⟩ = some (.int .i64 (af : Nat)) ∧ w'.cell? ⟨rb, 0, none⟩ = some (.pointer (some ⟨pb, 0, none⟩)) ∧ w'.cell? ⟨rb, 1, none⟩ = some (.int .i64 (bo : Nat)) ∧ w'.cell? ⟨rb, 2, none⟩ = some (.int .i64 (bbi : Nat)) ∧ w'.cell? ⟨rb, 3, none⟩ = some (.int .i64 (bf : Nat))) w := hSw0; clear hSw0; (try dsimp only at hSw); go_simp <;> with_reducible rfl)
  clear hHeld
  intro hHeld
  try simp only [Act.put, zl1, zl2, zl3, zl4, zl5, zl6]
  refine AnyR.one (i := 2) (by as_aux_lemma => kernel_rfl) rfl (fun K hK => ?_)
  go_simp
  refine hK.out _ _ (fun cls => match cls with | 0 => .inr (by simp only [World.cell?_drew, f6a, f6b, f7a, f7b, ea0, ea1, ea2, ea3, eb0, eb1, eb2, eb3, and_self]) | 1 => .inr trivial | _ + 2 => .inr trivial) (fun hHeld => ?_)
  clear hK K
  try simp only [Act.put, zl1, zl2, zl3, zl4, zl5, zl6]
  refine AnyR.one (i := 3) (by as_aux_lemma => kernel_rfl) rfl (fun K hK => ?_)
  go_simp
  refine hK.out _ _ (fun cls => match cls with | 0 => .inr (by simp only [World.cell?_drew, f6a, f6b, f7a, f7b, ea0, ea1, ea2, ea3, eb0, eb1, eb2, eb3, and_self]) | 1 => .inr trivial | _ + 2 => .inr trivial) (fun hHeld => ?_)
  clear hK K
  try simp only [Act.put, zl1, zl2, zl3, zl4, zl5, zl6]
  refine AnyR.tk (i := 4) 1 (v := ?_) rfl (by as_aux_lemma => kernel_rfl) (fun _ _ _ h => h) hHeld (by rfl) ?_ ?_
  rotate_left
  focus (intro w h; clear h; go_simp <;> with_reducible rfl)
  clear hHeld
  intro hHeld
  try simp only [Act.put, zl1, zl2, zl3, zl4, zl5, zl6]
  refine AnyR.end_ (by as_aux_lemma => kernel_rfl) ?_
  exact ⟨Lib.hid (ST.out.fend HD.out), rfl⟩
 case h2 =>
  intro w4 FE
  clear ea0 ea1 ea2 ea3 eb0 eb1 eb2 eb3 k60 k61 k62 k63 k70 k71 k72 k73 k6l k7l z60 z61 z62 z63 z70 z71 z72 z73 xal xbl d67 d76 f6a f6b f7a f7b
  obtain ⟨y0, y1, y2, y3⟩ := FE.out.b6.four
  obtain ⟨x0, x1, x2, x3⟩ := FE.out.b7.four
  have yl := FE.out.b6.lt
  have xl := FE.out.b7.lt
  go_wp2_with fail
  refine bodyPost_ret (v := .tuple #[fldV pa ao ab af, fldV pb bo bbi bf, .int .i64 2]) ?_ rfl ⟨pa, pb, by rw [HRES.out]; rfl, by rw [HRES.out]; exact ST.out.ta, by rw [HRES.out]; exact ST.out.tb, by rw [HRES.out]; exact ST.out.oka, by rw [HRES.out]; exact ST.out.okb, FE.out.old⟩
  rw [results_cct rfl]
  unfold fldV
  go_simp
theorem fld_arr33 {W wr : World} {g L cap z6 z7 ra rb plen pa pb k i gk : Nat} {rest : List Nat} {oa ob : Bool} {R : FS × Out} {J : Nat → Act → World → Prop} {K K6 : Act → World → Prop}
  {m : Nat} {u1 tb : Ty} {ao ab af bo bbi bf : Nat} {K3 : Int} (pb0 : W.cell? ⟨pb, 0, none⟩ = some (.int .i64 K3)) (hK3 : (K3 == 3) = false) (hnA : ∀ m2 u2, tb ≠ .arr m2 u2)
  (X : FCtx W g L cap z6 z7 ra rb plen) (hqk : (i :: rest).length + k = plen) (hqg : (i :: rest).length ≤ gk) (HACC : Hid (Acc W g L (i :: rest) (k + 1))) (ST : Hid (FSt W z6 z7 ra rb pa pb (60000000 + k * 100000) ⟨.arr m u1, ao, ab, af, tb, bo, bbi, bf⟩ wr)) (HRR : Hid (R = fieldGo (i :: rest) ⟨.arr m u1, ao, ab, af, tb, bo, bbi, bf⟩))
  (hJ : ∀ k' a' w', FInv W g L cap z6 z7 ra rb plen R c0 c2 c3 c4 c5 c20 c21 c22 c23 c24 c25 c26 c27 c28 c29 c30 c31 c32 c33 c34 c35 c36 c37 c38 c39 c40 c41 c42 c43 c44 c284 c285 k' a' w' → J k' a' w') (hK : ∀ a' w', Handed J gk a' w' → K a' w') :
  Code.wp Tryz.prog fldBody (Exit.then K (Exit.inBlock 0 (Exit.then K6 (bodyPost Tryz.prog Tryz.f11 (FRes W R))))) ⟨#[c0, .slice (some ⟨g, 0, none⟩) L cap, c2, c3, c4, c5, .pointer (some ⟨z6, 0, none⟩), .pointer (some ⟨z7, 0, none⟩), u8, .pointer (some ⟨ra, 0, none⟩), .pointer (some ⟨rb, 0, none⟩), .bool oa, .bool ob, u13, u14, u15, u16, u17, u18, u19, c20, c21, c22, c23, c24, c25, c26, c27, c28, c29, c30, c31, c32, c33, c34, c35, c36, c37, c38, c39, c40, c41, c42, c43, c44, .slice (some ⟨g, 1, none⟩) (L - 1) (cap - 1), .int .i64 ((L - 1 : Nat) : Int), .int .i64 (k : Int), u48, u49, u50, u51, u52, u53, u54, u55, u56, u57, u58, u59, u60, u61, u62, u63, u64, u65, u66, u67, u68, u69, u70, u71, u72, u73, u74, u75, u76, u77, u78, u79, u80, u81, u82, u83, u84, u85, u86, u87, u88, u89, u90, u91, u92, u93, u94, u95, u96, u97, u98, u99, u100, u101, u102, u103, u104, u105, u106, u107, u108, u109, u110, u111, u112, u113, u114, u115, u116, u117, u118, u119, u120, u121, u122, u123, u124, u125, u126, u127, u128, u129, u130, u131, u132, u133, u134, u135, u136, u137, u138, u139, u140, u141, u142, u143, u144, u145, u146, u147, u148, u149, u150, u151, u152, u153, u154, u155, u156, u157, u158, u159, u160, u161, u162, u163, u164, u165, u166, u167, u168, u169, u170, u171, u172, u173, u174, u175, u176, u177, u178, u179, u180, u181, u182, u183, u184, u185, u186, u187, u188, u189, u190, u191, u192, u193, u194, u195, u196, u197, u198, u199, u200, u201, u202, u203, u204, u205, u206, u207, u208, u209, u210, u211, u212, u213, u214, u215, u216, u217, u218, u219, u220, u221, u222, u223, u224, u225, u226, u227, u228, u229, u230, u231, u232, u233, u234, u235, u236, u237, u238, u239, u240, u241, u242, u243, u244, u245, u246, u247, u248, u249, u250, u251, u252, u253, u254, u255, u256, u257, u258, u259, u260, u261, u262, u263, u264, u265, u266, u267, u268, u269, u270, u271, u272, u273, u274, u275, u276, u277, u278, u279, u280, u281, u282, u283, c284, c285], []⟩ wr := by
 obtain ⟨hL, hg, hcap, hlen, hL2, DD⟩ := X
 have HD := Lib.hid DD
 obtain ⟨F6a, F6b, F7a, F7b⟩ := DD.far
 have hab := DD.dab
 have hab' := DD.dab.symm
 clear DD
 have hLp : (1 : Int) ≤ L := by omega
 have hcapp : (L : Int) ≤ cap := by omega
 have hc2 : (2 : Int) ≤ cap := by omega
 simp only [List.length_cons] at hqk hqg
 have hkL : (k : Int) < L - 1 := by omega
 have hkL' : ¬ ((L : Int) - 1 ≤ k) := by omega
 obtain ⟨hi0, hi1⟩ := HACC.out.2 0 i rfl
 have HACC1 := Lib.hid HACC.out.tail
 have hi2 := (ST.out.old.cell (p := ⟨g, k + 1 + 0, none⟩) hg).trans hi0
 rw [Nat.add_zero, Nat.add_comm] at hi2
 have gl := Nat.lt_of_lt_of_le hg ST.out.old.size
 clear hi0 HACC
 have RA : Hid (Rep wr Nowhere pa (.arr m u1)) := Lib.hid (ST.out.ta.old ST.out.old)
 have TA : Hid (Rep W Nowhere pa (.arr m u1)) := Lib.hid ST.out.ta
 have TB : Hid (Rep W Nowhere pb tb) := Lib.hid ST.out.tb
 have hcm := composite_any RA.out
 have pal := RA.out.lt
 obtain ⟨c1, pa0, pa2, pa4, RC1⟩ := TA.out.elem
 rw [show isC (.arr m u1) = false from rfl] at hcm
 have RC1 := Lib.hid RC1
 obtain ⟨hu, hm1, hm6⟩ := ST.out.oka.arr
 have HU := Lib.hid hu
 have pa0 := (ST.out.old.cell (p := ⟨pa, 0, none⟩) TA.out.lt).trans pa0
 have pa2 := (ST.out.old.cell (p := ⟨pa, 2, none⟩) TA.out.lt).trans pa2
 have pa4 := (ST.out.old.cell (p := ⟨pa, 4, none⟩) TA.out.lt).trans pa4
 have pbl := (ST.out.tb.old ST.out.old).lt
 clear hu
 obtain ⟨ea0, ea1, ea2, ea3⟩ := ST.out.ba.four
 obtain ⟨eb0, eb1, eb2, eb3⟩ := ST.out.bb.four
 have xal := ST.out.ba.lt
 have xbl := ST.out.bb.lt
 have hm0 : ¬ (m : Int) = 0 := by omega
 have hm0' : (0 : Int) < m := by omega
 have pb0 := (ST.out.old.cell (p := ⟨pb, 0, none⟩) TB.out.lt).trans pb0
 have HRES : Hid (R = (⟨.arr m u1, ao, ab, af, tb, bo, bbi, bf⟩, .poison)) := Lib.hid (HRR.out.trans (fieldGo_stop (by
  cases tb with
  | arr m2 u2 => exact absurd rfl (hnA m2 u2)
  | _ => rfl)))
 clear hnA
 conv => arg 2; whnf
 go_wp2_with fail
 refine hcm.mono ?_
 rintro e w5 ⟨rfl, rfl⟩
 obtain ⟨ea0, ea1, ea2, ea3⟩ := ST.out.ba.four
 obtain ⟨eb0, eb1, eb2, eb3⟩ := ST.out.bb.four
 have k60 := ST.out.b6.free 0
 have k61 := ST.out.b6.free 1
 have k62 := ST.out.b6.free 2
 have k63 := ST.out.b6.free 3
 have k70 := ST.out.b7.free 0
 have k71 := ST.out.b7.free 1
 have k72 := ST.out.b7.free 2
 have k73 := ST.out.b7.free 3
 have k6l := ST.out.b6.lt
 have k7l := ST.out.b7.lt
 obtain ⟨z60, z61, z62, z63⟩ := ST.out.b6.four
 obtain ⟨z70, z71, z72, z73⟩ := ST.out.b7.four
 have xal := ST.out.ba.lt
 have xbl := ST.out.bb.lt
 have d67 := HD.out.d67
 have d76 := HD.out.d67.symm
 have f6a := F6a.out
 have f6b := F6b.out
 have f7a := F7a.out
 have f7b := F7b.out
 go_upto_region 33 with fail
 apply wp_meet0 (fun w' => Hid (FEnd W z6 z7 pa ao ab af pb bo bbi bf w'))
 case h1 =>
  refine AnyR.start (wr := [3, 2]) (rd := (fun cls => match cls with | 0 => [0, 1] | 1 => [4] | _ + 2 => [])) (Sf := (fun cls w' => match cls with | 0 => w'.cell? ⟨ra, 0, none⟩ = some (.pointer (some ⟨pa, 0, none⟩)) ∧ w'.cell? ⟨ra, 1, none⟩ = some (.int .i64 (ao : Nat)) ∧ w'.cell? ⟨ra, 2, none⟩ = some (.int .i64 (ab : Nat)) ∧ w'.cell? ⟨ra, 3, none⟩ = some (.int .i64 (af : Nat)) ∧ w'.cell? ⟨rb, 0, none⟩ = some (.pointer (some ⟨pb, 0, none⟩)) ∧ w'.cell? ⟨rb, 1, none⟩ = some (.int .i64 (bo : Nat)) ∧ w'.cell? ⟨rb, 2, none⟩ = some (.int .i64 (bbi : Nat)) ∧ w'.cell? ⟨rb, 3, none⟩ = some (.int .i64 (bf : Nat)) | 1 => True | _ + 2 => True)) (by as_aux_lemma => kernel_rfl) (fun cls => match cls with | 0 => ⟨ea0, ea1, ea2, ea3, eb0, eb1, eb2, eb3⟩ | 1 => trivial | _ + 2 => trivial) (fun hHeld => ?_)
  refine AnyR.tk (i := 0) 0 (v := ?_) rfl (by as_aux_lemma => kernel_rfl) (fun _ _ _ h => h) hHeld (by rfl) ?_ ?_
  rotate_left
  focus (intro w hSw0; have hSw : (fun w' : World => w'.cell? ⟨ra, 0, none⟩ = some (.pointer (some ⟨pa, 0, none⟩)) ∧ w'.cell? ⟨ra, 1, none⟩ = some (.int .i64 (ao : Nat)) ∧ w'.cell? ⟨ra, 2, none⟩ = some (.int .i64 (ab : Nat)) ∧ w'.cell? ⟨ra, 3, none⟩ = some (.int .i64 (af : Nat)) ∧ w'.cell? ⟨rb, 0, none⟩ = some (.pointer (some ⟨pb, 0, none⟩)) ∧ w'.cell? ⟨rb, 1, none⟩ = some (.int .i64 (bo : Nat)) ∧ w'.cell? ⟨rb, 2, none⟩ = some (.int .i64 (bbi : Nat)) ∧ w'.cell? ⟨rb, 3, none⟩ = some (.int .i64 (bf : Nat))) w := hSw0; clear hSw0; (try dsimp only at hSw); go_simp <;> with_reducible rfl)
  clear hHeld
  intro hHeld
  try simp only [Act.put, zl1, zl2, zl3, zl4, zl5, zl6]
  refine AnyR.tk (i := 1) 0 (v := ?_) rfl (by as_aux_lemma => kernel_rfl) (fun _ _ _ h => h) hHeld (by rfl) ?_ ?_
  rotate_left
  focus (intro w hSw0; have hSw : (fun w' : World => w'.cell? ⟨ra, 0, none⟩ = some (.pointer (some ⟨pa, 0, none⟩)) ∧ w'.cell? ⟨ra, 1, none⟩ = some (.int .i64 (ao : Nat)) ∧ w'.cell? ⟨ra, 2, none⟩ = some (.int .i64 (ab : Nat)) ∧ w'.cell? ⟨ra, 3, none⟩ = some (.int .i64 (af : Nat)) ∧ w'.cell? ⟨rb, 0, none⟩ = some (.pointer (some ⟨pb, 0, none⟩)) ∧ w'.cell? ⟨rb, 1, none⟩ = some (.int .i64 (bo : Nat)) ∧ w'.cell? ⟨rb, 2, none⟩ = some (.int .i64 (bbi : Nat)) ∧ w'.cell? ⟨rb, 3, none⟩ = some (.int .i64 (bf : Nat))) w := hSw0; clear hSw0; (try dsimp only at hSw); go_simp <;> with_reducible rfl)
  clear hHeld
  intro hHeld
  try simp only [Act.put, zl1, zl2, zl3, zl4, zl5, zl6]
  refine AnyR.one (i := 2) (by as_aux_lemma => kernel_rfl) rfl (fun K hK => ?_)
  go_simp
  refine hK.out _ _ (fun cls => match cls with | 0 => .inr (by simp only [World.cell?_drew, f6a, f6b, f7a, f7b, ea0, ea1, ea2, ea3, eb0, eb1, eb2, eb3, and_self]) | 1 => .inr trivial | _ + 2 => .inr trivial) (fun hHeld => ?_)
  clear hK K
  try simp only [Act.put, zl1, zl2, zl3, zl4, zl5, zl6]
  refine AnyR.one (i := 3) (by as_aux_lemma => kernel_rfl) rfl (fun K hK => ?_)
  go_simp
  refine hK.out _ _ (fun cls => match cls with | 0 => .inr (by simp only [World.cell?_drew, f6a, f6b, f7a, f7b, ea0, ea1, ea2, ea3, eb0, eb1, eb2, eb3, and_self]) | 1 => .inr trivial | _ + 2 => .inr trivial) (fun hHeld => ?_)
  clear hK K
  try simp only [Act.put, zl1, zl2, zl3, zl4, zl5, zl6]
  refine AnyR.tk (i := 4) 1 (v := ?_) rfl (by as_aux_lemma => kernel_rfl) (fun _ _ _ h => h) hHeld (by rfl) ?_ ?_
  rotate_left
  focus (intro w h; clear h; go_simp <;> with_reducible rfl)
  clear hHeld
  intro hHeld
  try simp only [Act.put, zl1, zl2, zl3, zl4, zl5, zl6]
  refine AnyR.end_ (by as_aux_lemma => kernel_rfl) ?_
  exact ⟨Lib.hid (ST.out.fend HD.out), rfl⟩
 case h2 =>
  intro w4 FE
  clear ea0 ea1 ea2 ea3 eb0 eb1 eb2 eb3 k60 k61 k62 k63 k70 k71 k72 k73 k6l k7l z60 z61 z62 z63 z70 z71 z72 z73 xal xbl d67 d76 f6a f6b f7a f7b
  obtain ⟨y0, y1, y2, y3⟩ := FE.out.b6.four
  obtain ⟨x0, x1, x2, x3⟩ := FE.out.b7.four
  have yl := FE.out.b6.lt
  have xl := FE.out.b7.lt
  go_wp2_with fail
  refine bodyPost_ret (v := .tuple #[fldV pa ao ab af, fldV pb bo bbi bf, .int .i64 1]) ?_ rfl ⟨pa, pb, by rw [HRES.out]; rfl, by rw [HRES.out]; exact ST.out.ta, by rw [HRES.out]; exact ST.out.tb, by rw [HRES.out]; exact ST.out.oka, by rw [HRES.out]; exact ST.out.okb, FE.out.old⟩
  rw [results_cct rfl]
  unfold fldV
  go_simp
theorem fld_arr35 {W wr : World} {g L cap z6 z7 ra rb plen pa pb k i gk : Nat} {rest : List Nat} {oa ob : Bool} {R : FS × Out} {J : Nat → Act → World → Prop} {K K6 : Act → World → Prop}
  {m m2 : Nat} {u1 u2 : Ty} {ao ab af bo bbi bf : Nat} (hmi : m ≤ i)
  (X : FCtx W g L cap z6 z7 ra rb plen) (hqk : (i :: rest).length + k = plen) (hqg : (i :: rest).length ≤ gk) (HACC : Hid (Acc W g L (i :: rest) (k + 1))) (ST : Hid (FSt W z6 z7 ra rb pa pb (60000000 + k * 100000) ⟨.arr m u1, ao, ab, af, .arr m2 u2, bo, bbi, bf⟩ wr)) (HRR : Hid (R = fieldGo (i :: rest) ⟨.arr m u1, ao, ab, af, .arr m2 u2, bo, bbi, bf⟩))
  (hJ : ∀ k' a' w', FInv W g L cap z6 z7 ra rb plen R c0 c2 c3 c4 c5 c20 c21 c22 c23 c24 c25 c26 c27 c28 c29 c30 c31 c32 c33 c34 c35 c36 c37 c38 c39 c40 c41 c42 c43 c44 c284 c285 k' a' w' → J k' a' w') (hK : ∀ a' w', Handed J gk a' w' → K a' w') :
  Code.wp Tryz.prog fldBody (Exit.then K (Exit.inBlock 0 (Exit.then K6 (bodyPost Tryz.prog Tryz.f11 (FRes W R))))) ⟨#[c0, .slice (some ⟨g, 0, none⟩) L cap, c2, c3, c4, c5, .pointer (some ⟨z6, 0, none⟩), .pointer (some ⟨z7, 0, none⟩), u8, .pointer (some ⟨ra, 0, none⟩), .pointer (some ⟨rb, 0, none⟩), .bool oa, .bool ob, u13, u14, u15, u16, u17, u18, u19, c20, c21, c22, c23, c24, c25, c26, c27, c28, c29, c30, c31, c32, c33, c34, c35, c36, c37, c38, c39, c40, c41, c42, c43, c44, .slice (some ⟨g, 1, none⟩) (L - 1) (cap - 1), .int .i64 ((L - 1 : Nat) : Int), .int .i64 (k : Int), u48, u49, u50, u51, u52, u53, u54, u55, u56, u57, u58, u59, u60, u61, u62, u63, u64, u65, u66, u67, u68, u69, u70, u71, u72, u73, u74, u75, u76, u77, u78, u79, u80, u81, u82, u83, u84, u85, u86, u87, u88, u89, u90, u91, u92, u93, u94, u95, u96, u97, u98, u99, u100, u101, u102, u103, u104, u105, u106, u107, u108, u109, u110, u111, u112, u113, u114, u115, u116, u117, u118, u119, u120, u121, u122, u123, u124, u125, u126, u127, u128, u129, u130, u131, u132, u133, u134, u135, u136, u137, u138, u139, u140, u141, u142, u143, u144, u145, u146, u147, u148, u149, u150, u151, u152, u153, u154, u155, u156, u157, u158, u159, u160, u161, u162, u163, u164, u165, u166, u167, u168, u169, u170, u171, u172, u173, u174, u175, u176, u177, u178, u179, u180, u181, u182, u183, u184, u185, u186, u187, u188, u189, u190, u191, u192, u193, u194, u195, u196, u197, u198, u199, u200, u201, u202, u203, u204, u205, u206, u207, u208, u209, u210, u211, u212, u213, u214, u215, u216, u217, u218, u219, u220, u221, u222, u223, u224, u225, u226, u227, u228, u229, u230, u231, u232, u233, u234, u235, u236, u237, u238, u239, u240, u241, u242, u243, u244, u245, u246, u247, u248, u249, u250, u251, u252, u253, u254, u255, u256, u257, u258, u259, u260, u261, u262, u263, u264, u265, u266, u267, u268, u269, u270, u271, u272, u273, u274, u275, u276, u277, u278, u279, u280, u281, u282, u283, c284, c285], []⟩ wr := by
 obtain ⟨hL, hg, hcap, hlen, hL2, DD⟩ := X
 have HD := Lib.hid DD
 obtain ⟨F6a, F6b, F7a, F7b⟩ := DD.far
 have hab := DD.dab
 have hab' := DD.dab.symm
 clear DD
 have hLp : (1 : Int) ≤ L := by omega
 have hcapp : (L : Int) ≤ cap := by omega
 have hc2 : (2 : Int) ≤ cap := by omega
 simp only [List.length_cons] at hqk hqg
 have hkL : (k : Int) < L - 1 := by omega
 have hkL' : ¬ ((L : Int) - 1 ≤ k) := by omega
 obtain ⟨hi0, hi1⟩ := HACC.out.2 0 i rfl
 have HACC1 := Lib.hid HACC.out.tail
 have hi2 := (ST.out.old.cell (p := ⟨g, k + 1 + 0, none⟩) hg).trans hi0
 rw [Nat.add_zero, Nat.add_comm] at hi2
 have gl := Nat.lt_of_lt_of_le hg ST.out.old.size
 clear hi0 HACC
 have RA : Hid (Rep wr Nowhere pa (.arr m u1)) := Lib.hid (ST.out.ta.old ST.out.old)
 have TA : Hid (Rep W Nowhere pa (.arr m u1)) := Lib.hid ST.out.ta
 have TB : Hid (Rep W Nowhere pb (.arr m2 u2)) := Lib.hid ST.out.tb
 have hcm := composite_any RA.out
 have pal := RA.out.lt
 obtain ⟨c1, pa0, pa2, pa4, RC1⟩ := TA.out.elem
 rw [show isC (.arr m u1) = false from rfl] at hcm
 have RC1 := Lib.hid RC1
 obtain ⟨hu, hm1, hm6⟩ := ST.out.oka.arr
 have HU := Lib.hid hu
 have pa0 := (ST.out.old.cell (p := ⟨pa, 0, none⟩) TA.out.lt).trans pa0
 have pa2 := (ST.out.old.cell (p := ⟨pa, 2, none⟩) TA.out.lt).trans pa2
 have pa4 := (ST.out.old.cell (p := ⟨pa, 4, none⟩) TA.out.lt).trans pa4
 have pbl := (ST.out.tb.old ST.out.old).lt
 clear hu
 obtain ⟨ea0, ea1, ea2, ea3⟩ := ST.out.ba.four
 obtain ⟨eb0, eb1, eb2, eb3⟩ := ST.out.bb.four
 have xal := ST.out.ba.lt
 have xbl := ST.out.bb.lt
 have hm0 : ¬ (m : Int) = 0 := by omega
 have hm0' : (0 : Int) < m := by omega
 obtain ⟨c2, pb0, pb2, pb4, RC2⟩ := TB.out.elem
 have RC2 := Lib.hid RC2
 have pb0 := (ST.out.old.cell (p := ⟨pb, 0, none⟩) TB.out.lt).trans pb0
 have pb2 := (ST.out.old.cell (p := ⟨pb, 2, none⟩) TB.out.lt).trans pb2
 have pb4 := (ST.out.old.cell (p := ⟨pb, 4, none⟩) TB.out.lt).trans pb4
 obtain ⟨hu2, hn1, hn6⟩ := ST.out.okb.arr
 have HU2 := Lib.hid hu2
 clear hu2
 have hn0 : ¬ (m2 : Int) = 0 := by omega
 have hn0' : (0 : Int) < m2 := by omega
 have hmi' : (m : Int) ≤ i := by omega
 have HRES : Hid (R = (⟨.arr m u1, ao, ab, af, .arr m2 u2, bo, bbi, bf⟩, .wrong)) := Lib.hid (HRR.out.trans (fieldGo_stop (by unfold stepF; simp only [if_pos hmi])))
 clear hmi
 conv => arg 2; whnf
 go_wp2_with fail
 refine hcm.mono ?_
 rintro e w5 ⟨rfl, rfl⟩
 obtain ⟨ea0, ea1, ea2, ea3⟩ := ST.out.ba.four
 obtain ⟨eb0, eb1, eb2, eb3⟩ := ST.out.bb.four
 have k60 := ST.out.b6.free 0
 have k61 := ST.out.b6.free 1
 have k62 := ST.out.b6.free 2
 have k63 := ST.out.b6.free 3
 have k70 := ST.out.b7.free 0
 have k71 := ST.out.b7.free 1
 have k72 := ST.out.b7.free 2
 have k73 := ST.out.b7.free 3
 have k6l := ST.out.b6.lt
 have k7l := ST.out.b7.lt
 obtain ⟨z60, z61, z62, z63⟩ := ST.out.b6.four
 obtain ⟨z70, z71, z72, z73⟩ := ST.out.b7.four
 have xal := ST.out.ba.lt
 have xbl := ST.out.bb.lt
 have d67 := HD.out.d67
 have d76 := HD.out.d67.symm
 have f6a := F6a.out
 have f6b := F6b.out
 have f7a := F7a.out
 have f7b := F7b.out
 go_upto_region 35 with fail
 apply wp_meet0 (fun w' => Hid (FEnd W z6 z7 pa ao ab af pb bo bbi bf w'))
 case h1 =>
  refine AnyR.start (wr := [3, 2]) (rd := (fun cls => match cls with | 0 => [0, 1] | 1 => [4] | _ + 2 => [])) (Sf := (fun cls w' => match cls with | 0 => w'.cell? ⟨ra, 0, none⟩ = some (.pointer (some ⟨pa, 0, none⟩)) ∧ w'.cell? ⟨ra, 1, none⟩ = some (.int .i64 (ao : Nat)) ∧ w'.cell? ⟨ra, 2, none⟩ = some (.int .i64 (ab : Nat)) ∧ w'.cell? ⟨ra, 3, none⟩ = some (.int .i64 (af : Nat)) ∧ w'.cell? ⟨rb, 0, none⟩ = some (.pointer (some ⟨pb, 0, none⟩)) ∧ w'.cell? ⟨rb, 1, none⟩ = some (.int .i64 (bo : Nat)) ∧ w'.cell? ⟨rb, 2, none⟩ = some (.int .i64 (bbi : Nat)) ∧ w'.cell? ⟨rb, 3, none⟩ = some (.int .i64 (bf : Nat)) | 1 => True | _ + 2 => True)) (by as_aux_lemma => kernel_rfl) (fun cls => match cls with | 0 => ⟨ea0, ea1, ea2, ea3, eb0, eb1, eb2, eb3⟩ | 1 => trivial | _ + 2 => trivial) (fun hHeld => ?_)
  refine AnyR.tk (i := 0) 0 (v := ?_) rfl (by as_aux_lemma => kernel_rfl) (fun _ _ _ h => h) hHeld (by rfl) ?_ ?_
  rotate_left
  focus (intro w hSw0; have hSw : (fun w' : World => w'.cell? ⟨ra, 0, none⟩ = some (.pointer (some ⟨pa, 0, none⟩)) ∧ w'.cell? ⟨ra, 1, none⟩ = some (.int .i64 (ao : Nat)) ∧ w'.cell? ⟨ra, 2, none⟩ = some (.int .i64 (ab : Nat)) ∧ w'.cell? ⟨ra, 3, none⟩ = some (.int .i64 (af : Nat)) ∧ w'.cell? ⟨rb, 0, none⟩ = some (.pointer (some ⟨pb, 0, none⟩)) ∧ w'.cell? ⟨rb, 1, none⟩ = some (.int .i64 (bo : Nat)) ∧ w'.cell? ⟨rb, 2, none⟩ = some (.int .i64 (bbi : Nat)) ∧ w'.cell? ⟨rb, 3, none⟩ = some (.int .i64 (bf : Nat))) w := hSw0; clear hSw0; (try dsimp only at hSw); go_simp <;> with_reducible rfl)
  clear hHeld
  intro hHeld
  try simp only [Act.put, zl1, zl2, zl3, zl4, zl5, zl6]
  refine AnyR.tk (i := 1) 0 (v := ?_) rfl (by as_aux_lemma => kernel_rfl) (fun _ _ _ h => h) hHeld (by rfl) ?_ ?_
  rotate_left
  focus (intro w hSw0; have hSw : (fun w' : World => w'.cell? ⟨ra, 0, none⟩ = some (.pointer (some ⟨pa, 0, none⟩)) ∧ w'.cell? ⟨ra, 1, none⟩ = some (.int .i64 (ao : Nat)) ∧ w'.cell? ⟨ra, 2, none⟩ = some (.int .i64 (ab : Nat)) ∧ w'.cell? ⟨ra, 3, none⟩ = some (.int .i64 (af : Nat)) ∧ w'.cell? ⟨rb, 0, none⟩ = some (.pointer (some ⟨pb, 0, none⟩)) ∧ w'.cell? ⟨rb, 1, none⟩ = some (.int .i64 (bo : Nat)) ∧ w'.cell? ⟨rb, 2, none⟩ = some (.int .i64 (bbi : Nat)) ∧ w'.cell? ⟨rb, 3, none⟩ = some (.int .i64 (bf : Nat))) w := hSw0; clear hSw0; (try dsimp only at hSw); go_simp <;> with_reducible rfl)
  clear hHeld
  intro hHeld
  try simp only [Act.put, zl1, zl2, zl3, zl4, zl5, zl6]
  refine AnyR.one (i := 2) (by as_aux_lemma => kernel_rfl) rfl (fun K hK => ?_)
  go_simp
  refine hK.out _ _ (fun cls => match cls with | 0 => .inr (by simp only [World.cell?_drew, f6a, f6b, f7a, f7b, ea0, ea1, ea2, ea3, eb0, eb1, eb2, eb3, and_self]) | 1 => .inr trivial | _ + 2 => .inr trivial) (fun hHeld => ?_)
  clear hK K
  try simp only [Act.put, zl1, zl2, zl3, zl4, zl5, zl6]
  refine AnyR.one (i := 3) (by as_aux_lemma => kernel_rfl) rfl (fun K hK => ?_)
  go_simp
  refine hK.out _ _ (fun cls => match cls with | 0 => .inr (by simp only [World.cell?_drew, f6a, f6b, f7a, f7b, ea0, ea1, ea2, ea3, eb0, eb1, eb2, eb3, and_self]) | 1 => .inr trivial | _ + 2 => .inr trivial) (fun hHeld => ?_)
  clear hK K
  try simp only [Act.put, zl1, zl2, zl3, zl4, zl5, zl6]
  refine AnyR.tk (i := 4) 1 (v := ?_) rfl (by as_aux_lemma => kernel_rfl) (fun _ _ _ h => h) hHeld (by rfl) ?_ ?_
  rotate_left
  focus (intro w h; clear h; go_simp <;> with_reducible rfl)
  clear hHeld
  intro hHeld
  try simp only [Act.put, zl1, zl2, zl3, zl4, zl5, zl6]
  refine AnyR.end_ (by as_aux_lemma => kernel_rfl) ?_
  exact ⟨Lib.hid (ST.out.fend HD.out), rfl⟩
 case h2 =>
  intro w4 FE
  clear ea0 ea1 ea2 ea3 eb0 eb1 eb2 eb3 k60 k61 k62 k63 k70 k71 k72 k73 k6l k7l z60 z61 z62 z63 z70 z71 z72 z73 xal xbl d67 d76 f6a f6b f7a f7b
  obtain ⟨y0, y1, y2, y3⟩ := FE.out.b6.four
  obtain ⟨x0, x1, x2, x3⟩ := FE.out.b7.four
  have yl := FE.out.b6.lt
  have xl := FE.out.b7.lt
  go_wp2_with fail
  refine bodyPost_ret (v := .tuple #[fldV pa ao ab af, fldV pb bo bbi bf, .int .i64 2]) ?_ rfl ⟨pa, pb, by rw [HRES.out]; rfl, by rw [HRES.out]; exact ST.out.ta, by rw [HRES.out]; exact ST.out.tb, by rw [HRES.out]; exact ST.out.oka, by rw [HRES.out]; exact ST.out.okb, FE.out.old⟩
  rw [results_cct rfl]
  unfold fldV
  go_simp
end
end Go.Proofs.YtfilbgmbmlmdbaaGreatDoor
