/- Structs by numbers with what their fields are called: words and plain lemmas. Nothing is claimed here. -/
import Derived.Test.YtfilbgmbmlmdbaaGreatDoorZ03
import Derived.Test.YtfilbgmbmlmdbaaGreatDoorZ06
set_option linter.unusedSimpArgs false
set_option linter.unusedVariables false
set_option maxRecDepth 1000000
set_option maxHeartbeats 16000000
namespace Go.Proofs.YtfilbgmbmlmdbaaGreatDoor
open Go.RowKit
def InNm (qn qm : ByteArray) (y : Ty) : Prop := ∃ un sz py pa pb, y = .comp un ⟨#[]⟩ sz 2 (upd (fun _ => qn) 1 qm) py pa pb
def NmI (A : Prop) (ns : ByteArray) (a b : Nat) (nm : ByteArray) (y : Ty) : Prop :=
 (nm = ns.extract a (a + 1) ∧ a + 1 ≤ b) ∨ (A ∧ nm = ⟨#[]⟩ ∧ InNm (ns.extract a (a + 1)) (ns.extract (a + 1) (a + 1 + 1)) y ∧ a + 2 ≤ b)
def Nms (A : Prop) (ns : ByteArray) (nx k : Nat) (pn : Nat → ByteArray) (py : Nat → Ty) : Prop := ∃ px : Nat → Nat, (∀ i, i < k → NmI A ns (px i) (px (i + 1)) (pn i) (py i)) ∧ px k = nx
theorem Nms.zero (A : Prop) (ns : ByteArray) (pn : Nat → ByteArray) (py : Nat → Ty) : Nms A ns 0 0 pn py := ⟨fun _ => 0, fun i h => by omega, rfl⟩
theorem Nms.step {A : Prop} {ns : ByteArray} {nx nx' k : Nat} {pn : Nat → ByteArray} {py : Nat → Ty} {qn : ByteArray} {qy : Ty} (h : Nms A ns nx k pn py) (hq : NmI A ns nx nx' qn qy) : Nms A ns nx' (k + 1) (upd pn k qn) (upd py k qy) := by
 obtain ⟨px, h, rfl⟩ := h
 refine ⟨upd px (k + 1) nx', fun i hi => ?_, upd_same _ _ _⟩
 by_cases hik : i < k
 ·rw [upd_other _ _ (show i < k + 1 by omega), upd_other _ _ (show i + 1 < k + 1 by omega), upd_other _ _ hik, upd_other _ _ hik]
  exact h i hik
 ·obtain rfl : i = k := by omega
  rw [upd_other _ _ (Nat.lt_succ_self i), upd_same, upd_same, upd_same]
  exact hq
def StrN (A : Prop) (F : Ty → Prop) (M mx : Nat) (nm ns : ByteArray) (t : Ty) : Prop :=
 ∃ sz n pn py pa pb, t = .comp false nm sz n pn py pa pb ∧ n ≤ 20 ∧ sz ≤ mx ∧ (∀ i, i < n → PartOk F M (pn i) (py i) (pa i) (pb i) ∧ pa i ≤ 8 * mx) ∧ ∃ nx, nx ≤ ns.size ∧ Nms A ns nx n pn py
theorem StrN.str {A : Prop} {F : Ty → Prop} {M mx : Nat} {nm ns : ByteArray} {t : Ty} (h : StrN A F M mx nm ns t) : StrT F M mx nm t := by
 obtain ⟨sz, n, pn, py, pa, pb, e, h1, h2, h3, _⟩ := h
 exact ⟨sz, n, pn, py, pa, pb, e, h1, h2, h3⟩
def StrLoopN (A : Prop) (W : World) (Dx : Nat → Prop) (F : Ty → Prop) (M : Nat) (tb : Nat) (nm ns : ByteArray) (n gk : Nat) (vat vnx vi : Value) (w : World) : Prop :=
 ∃ k at_ nx v xs pn py pa pb pc, StrSt W Dx F M at_ tb nm k v xs pn py pa pb pc w ∧ Hid (Nms A ns nx k pn py) ∧ k ≤ n ∧ nx ≤ ns.size ∧ at_ ≤ k * (8 * M + 256) ∧ n - k ≤ gk ∧ vat = .int .i64 (at_ : Nat) ∧ vnx = .int .i64 (nx : Nat) ∧ vi = .int .i64 (k : Nat)
section
variable {W wr w1 w3 : World} {Dx : Nat → Prop} {F : Ty → Prop} {M A tb : Nat} {nm : ByteArray} {k : Nat} {v : Value} {xs : List Value} {pn : Nat → ByteArray} {py : Nat → Ty} {pa pb pc : Nat → Nat}
theorem StrSt.doneN {mx nx : Nat} {N : Prop} {ns : ByteArray} {z : Int} (st : StrSt W Dx F M A tb nm k v xs pn py pa pb pc wr) (hk : k ≤ 20) (hz : z = ((A + 63) / 64 * 8 : Nat)) (hm : (A + 63) / 64 * 8 ≤ mx) (hnx : nx ≤ ns.size) (hnms : Nms N ns nx k pn py) :
  ∃ t, Rep (wr.setCell ⟨tb, 2, none⟩ (.int .i64 z)) Dx tb t ∧ StrN N F M mx nm ns t ∧ Below W.heap.size W (wr.setCell ⟨tb, 2, none⟩ (.int .i64 z)) := by
 subst hz
 have hown : ∀ g, v.ownBlock = some g → tb + 1 ≤ g := fun g hg => (st.own.lt g hg).1
 refine ⟨_, .comp (un := false) (v := v) (xs := xs) (pc := pc) (pn := pn) (py := py) (pa := pa) (pb := pb) (n := k) (st.blk.set 2 _) (fun hx => by have := st.dx tb hx; omega) ?_ ?_ st.row ?_, ⟨_, _, _, _, _, _, rfl, hk, hm, ?_, nx, hnx, hnms⟩, st.old.setCell st.lo _⟩
 ·exact ownsRow_base (ownsRow_setCell st.own (fun x => by have := hown tb x.symm; omega) _) (Nat.zero_le _)
 ·exact fun g hg hx => by have := hown g hg; have := st.dx g hx; omega
 ·intro i hi
  exact (st.rep i hi).keep (fun b hb hd => Below.heap_setCell _ _ _ _ (fun x => hd (.inr (.inl x)))) (fun b _ hx => .inl hx)
 ·intro i hi
  exact ⟨(st.ok i hi).1, by have := (st.ok i hi).2; omega⟩
theorem StrSt.madeN {mx nx : Nat} {N : Prop} {ns : ByteArray} {z : Int} (st : StrSt W (· < W.heap.size) F M A tb nm k v xs pn py pa pb pc wr) (hk : k ≤ 20) (hz : z = ((A + 63) / 64 * 8 : Nat)) (hm : (A + 63) / 64 * 8 ≤ mx) (hnx : nx ≤ ns.size) (hnms : Nms N ns nx k pn py) :
  Made W (StrN N F M mx nm ns) (.returned (.pointer (some ⟨tb, 0, none⟩))) (wr.setCell ⟨tb, 2, none⟩ (.int .i64 z)) := by
 obtain ⟨t, h1, h2, h3⟩ := st.doneN hk hz hm hnx hnms
 exact ⟨tb, t, rfl, h1, h2, h3⟩
end
theorem InPost.doneN {W wr w1 w5 w6 : World} {Dx : Nat → Prop} {F : Ty → Prop} {M A tb : Nat} {nm : ByteArray} {k : Nat} {v : Value} {xs : List Value} {pn : Nat → ByteArray} {py : Nat → Ty} {pa pb pc : Nat → Nat}
  {ib b0 bi g cap : Nat} {un : Bool} {qn qm : ByteArray} {t0 : Ty} {a1 sz q : Nat}
  (h : InPost w1 ib (if un then 5 else 4) qn qm b0 bi g cap w5) (st : StrSt W Dx F M A tb nm k v xs pn py pa pb pc wr) (hb0 : Below wr.heap.size wr w1) (r0 : Rep w1 (· < wr.heap.size) b0 t0)
  (hF0 : F t0) (hI : ∀ t, IntT t → F t) (hqn : qn.size = 1) (hqm : qm.size = 1) (hq : q ≤ 8 * M + 64 ∧ q % 64 = 0) (hsz : sz ≤ M + 16) (h64 : a1 % 64 = 0)
  (hp : Blk w6 w1.heap.size #[.string ⟨#[]⟩, .pointer (some ⟨ib, 0, none⟩), .int .i64 a1, .int .i64 0, .int .i64 0] 56)
  (hi : Blk w6 ib #[.int .i64 (if un then 5 else 4), .string ⟨#[]⟩, .int .i64 sz, .bool false, .pointer none, .slice (some ⟨g, 0, none⟩) 2 cap] 38)
  (hg : ∃ cur, Blk w6 g cur 56 ∧ cur.size = cap * 5 ∧ 2 ≤ cap ∧ cap ≤ maxLen ∧ cur.toList.take 10 = [.string qn, .pointer (some ⟨b0, 0, none⟩), .int .i64 0, .int .i64 0, .int .i64 0, .string qm, .pointer (some ⟨bi, 0, none⟩), .int .i64 q, .int .i64 0, .int .i64 0])
  (he : ∀ b, b ≠ w1.heap.size → b ≠ ib → b ≠ g → w6.heap[b]? = w5.heap[b]?) (hB : Below w1.heap.size w1 w6) :
  ∃ y, StrPre W Dx F M A tb nm k v xs pn py pa pb pc wr.heap.size w1.heap.size ⟨#[]⟩ ib y a1 0 w6 ∧ InNm qn qm y := by
 obtain ⟨it, hit, ri⟩ := h.rep
 obtain ⟨cur, hc, hcs, h2, hm, htk⟩ := hg
 have hil := h.lt
 have hig := h.gt
 have hs0 := hb0.size
 have htb := st.blk.lt
 have hgl := hc.lt
 have hDlt : ∀ b, (Dx b ∨ b = tb ∨ v.ownBlock = some b) → b < wr.heap.size := fun b hx => by
  rcases hx with hx | hx | hx
  ·have := st.dx b hx; omega
  ·omega
  ·exact (st.own.lt b hx).2
 refine ⟨.comp un ⟨#[]⟩ sz 2 (upd (fun _ => qn) 1 qm) (upd (fun _ => t0) 1 it) (upd (fun _ => 0) 1 q) (fun _ => 0), ⟨st.move (hb0.trans (hB.mono hs0)), hp, ?_, ?_, Nat.le_trans hs0 hB.size⟩, ⟨_, _, _, _, _, rfl⟩⟩
 ·refine .comp (v := .slice (some ⟨g, 0, none⟩) 2 cap) (pc := upd (fun _ => b0) 1 bi) hi (fun hx => by have := hDlt _ hx; omega) ⟨?_, .inr ⟨g, cap, cur, rfl, Nat.zero_le _, hc, h2, hm, hcs, htk⟩⟩ (fun g' hg' hx => ?_) (fun i hi2 => ?_) (fun i hi2 => ?_)
  ·rfl
  ·have : g = g' := by simpa [Value.ownBlock] using hg'
   have := hDlt _ hx; omega
  ·rcases (by omega : i = 0 ∨ i = 1) with rfl | rfl
   ·exact ⟨rfl, rfl, rfl, rfl, rfl⟩
   ·exact ⟨rfl, rfl, rfl, rfl, rfl⟩
  ·rcases (by omega : i = 0 ∨ i = 1) with rfl | rfl
   ·exact (r0.keep (fun b hl _ => hB.block b hl) (fun b _ hx => hDlt b hx) : Rep w6 _ b0 t0)
   ·refine (ri.keep (fun b hl hd => he b (fun x => hd (.inl (by omega))) (fun x => hd (.inl (by omega))) (fun x => hd (.inr x))) (fun b _ hx => .inl (by have := hDlt b hx; omega)) : Rep w6 _ bi it)
 ·refine .inr ⟨rfl, ⟨un, sz, 2, _, _, _, _, rfl, by omega, by omega, hsz, fun i hi2 => ?_⟩, rfl, h64⟩
  rcases (by omega : i = 0 ∨ i = 1) with rfl | rfl
  ·exact ⟨hqn, hF0, .inl ⟨rfl, Nat.zero_mod _⟩, Nat.zero_le _⟩
  ·exact ⟨hqm, hI _ hit, .inl ⟨rfl, hit.al8.mod hq.2⟩, hq.1⟩
section
variable {W wr w1 w5 wz : World} {Dx : Nat → Prop} {F : Ty → Prop} {M A tb : Nat} {nm : ByteArray} {k : Nat} {v : Value} {xs : List Value} {pn : Nat → ByteArray} {py : Nat → Ty} {pa pb pc : Nat → Nat}
  {ib b0 bi g cap : Nat} {un : Bool} {qn qm : ByteArray} {t0 : Ty} {a1 sz q : Nat}
theorem InPost.closeN (h : InPost w1 ib (if un then 5 else 4) qn qm b0 bi g cap w5) (st : StrSt W Dx F M A tb nm k v xs pn py pa pb pc wr) (hb0 : Below wr.heap.size wr w1) (r0 : Rep w1 (· < wr.heap.size) b0 t0)
  (hF0 : F t0) (hI : ∀ t, IntT t → F t) (hqn : qn.size = 1) (hqm : qm.size = 1) (hq : q ≤ 8 * M + 64 ∧ q % 64 = 0) (hsz : sz ≤ M + 16) (h64 : a1 % 64 = 0)
  (hz : ∀ b, b ≠ g → wz.heap[b]? = w5.heap[b]?) (hzB : Below w1.heap.size w5 wz)
  (hg : ∃ cur, Blk wz g cur 56 ∧ cur.size = cap * 5 ∧ 2 ≤ cap ∧ cap ≤ maxLen ∧ cur.toList.take 10 = [.string qn, .pointer (some ⟨b0, 0, none⟩), .int .i64 0, .int .i64 0, .int .i64 0, .string qm, .pointer (some ⟨bi, 0, none⟩), .int .i64 q, .int .i64 0, .int .i64 0])
  {zs za : Int} (hzs : zs = sz) (hza : za = a1) :
  ∃ y, StrPre W Dx F M A tb nm k v xs pn py pa pb pc wr.heap.size w1.heap.size ⟨#[]⟩ ib y a1 0
   ((((((wz.setCell ⟨ib, 2, none⟩ (.int .i64 zs)).setCell ⟨w1.heap.size, 0, none⟩ (.string ⟨#[]⟩)).setCell ⟨w1.heap.size, 1, none⟩ (.pointer (some ⟨ib, 0, none⟩))).setCell ⟨w1.heap.size, 2, none⟩ (.int .i64 za)).setCell ⟨w1.heap.size, 3, none⟩ (.int .i64 0)).setCell ⟨w1.heap.size, 4, none⟩ (.int .i64 0)) ∧ InNm qn qm y := by
 subst hzs hza
 have hil := h.lt
 have hig := h.gt
 have e1 : w1.heap.size ≠ ib := by omega
 have e2 : w1.heap.size ≠ g := by omega
 have e3 : ib ≠ g := by omega
 obtain ⟨cur, hc, hr⟩ := hg
 refine h.doneN (un := un) (q := q) (sz := sz) st hb0 r0 hF0 hI hqn hqm hq hsz h64 ?_ ?_ ⟨cur, ?_, hr⟩ ?_ ?_
 ·exact (((((((h.p.of_eq (hz _ e2)).other (p := ⟨ib, 2, none⟩) e1 _).set 0 _).set 1 _).set 2 _).set 3 _).set 4 _)
 ·exact ((((((((h.i.of_eq (hz _ e3)).set 2 _).other (p := ⟨w1.heap.size, 0, none⟩) e1.symm _).other (p := ⟨w1.heap.size, 1, none⟩) e1.symm _).other (p := ⟨w1.heap.size, 2, none⟩) e1.symm _).other (p := ⟨w1.heap.size, 3, none⟩) e1.symm _).other (p := ⟨w1.heap.size, 4, none⟩) e1.symm _))
 ·exact (((((((hc.other (p := ⟨ib, 2, none⟩) e3.symm _).other (p := ⟨w1.heap.size, 0, none⟩) e2.symm _).other (p := ⟨w1.heap.size, 1, none⟩) e2.symm _).other (p := ⟨w1.heap.size, 2, none⟩) e2.symm _).other (p := ⟨w1.heap.size, 3, none⟩) e2.symm _).other (p := ⟨w1.heap.size, 4, none⟩) e2.symm _))
 ·intro b n1 n2 n3
  rw [Below.heap_setCell _ _ _ _ n1, Below.heap_setCell _ _ _ _ n1, Below.heap_setCell _ _ _ _ n1, Below.heap_setCell _ _ _ _ n1, Below.heap_setCell _ _ _ _ n1, Below.heap_setCell _ _ _ _ n2]
  exact hz b n3
 ·exact ((((((h.old.trans hzB).setCell (p := ⟨ib, 2, none⟩) (Nat.le_of_lt hil) _).setCell (p := ⟨w1.heap.size, 0, none⟩) (Nat.le_refl _) _).setCell (p := ⟨w1.heap.size, 1, none⟩) (Nat.le_refl _) _).setCell (p := ⟨w1.heap.size, 2, none⟩) (Nat.le_refl _) _).setCell (p := ⟨w1.heap.size, 3, none⟩) (Nat.le_refl _) _).setCell (p := ⟨w1.heap.size, 4, none⟩) (Nat.le_refl _) _
theorem InPost.close4N (h : InPost w1 ib 4 qn qm b0 bi g cap w5) (st : StrSt W Dx F M A tb nm k v xs pn py pa pb pc wr) (hb0 : Below wr.heap.size wr w1) (r0 : Rep w1 (· < wr.heap.size) b0 t0)
  (hF0 : F t0) (hI : ∀ t, IntT t → F t) (hqn : qn.size = 1) (hqm : qm.size = 1) (hq : q ≤ 8 * M + 64 ∧ q % 64 = 0) (hsz : sz ≤ M + 16) (h64 : a1 % 64 = 0) {zq zs za : Int} (hzq : zq = q) (hzs : zs = sz) (hza : za = a1) :
  ∃ y, StrPre W Dx F M A tb nm k v xs pn py pa pb pc wr.heap.size w1.heap.size ⟨#[]⟩ ib y a1 0
   (((((((w5.setCell ⟨g, 7, none⟩ (.int .i64 zq)).setCell ⟨ib, 2, none⟩ (.int .i64 zs)).setCell ⟨w1.heap.size, 0, none⟩ (.string ⟨#[]⟩)).setCell ⟨w1.heap.size, 1, none⟩ (.pointer (some ⟨ib, 0, none⟩))).setCell ⟨w1.heap.size, 2, none⟩ (.int .i64 za)).setCell ⟨w1.heap.size, 3, none⟩ (.int .i64 0)).setCell ⟨w1.heap.size, 4, none⟩ (.int .i64 0)) ∧ InNm qn qm y := by
 subst hzq
 obtain ⟨cur, hc, h1, h2, h3, h4⟩ := h.row
 have hil := h.lt
 have hig := h.gt
 refine InPost.closeN (un := false) h st hb0 r0 hF0 hI hqn hqm hq hsz h64 (fun b hb => Below.heap_setCell _ _ _ _ hb) ((Below.refl _ _).setCell (p := ⟨g, 7, none⟩) (by show _ ≤ g; omega) _) ⟨_, hc.set 7 _, by simpa using h1, h2, h3, ?_⟩ hzs hza
 rw [Array.toList_setIfInBounds, List.take_set, h4]
 rfl
theorem InPost.close5N (h : InPost w1 ib 5 qn qm b0 bi g cap w5) (st : StrSt W Dx F M A tb nm k v xs pn py pa pb pc wr) (hb0 : Below wr.heap.size wr w1) (r0 : Rep w1 (· < wr.heap.size) b0 t0)
  (hF0 : F t0) (hI : ∀ t, IntT t → F t) (hqn : qn.size = 1) (hqm : qm.size = 1) (hsz : sz ≤ M + 16) (h64 : a1 % 64 = 0) {zs za : Int} (hzs : zs = sz) (hza : za = a1) :
  ∃ y, StrPre W Dx F M A tb nm k v xs pn py pa pb pc wr.heap.size w1.heap.size ⟨#[]⟩ ib y a1 0
   ((((((w5.setCell ⟨ib, 2, none⟩ (.int .i64 zs)).setCell ⟨w1.heap.size, 0, none⟩ (.string ⟨#[]⟩)).setCell ⟨w1.heap.size, 1, none⟩ (.pointer (some ⟨ib, 0, none⟩))).setCell ⟨w1.heap.size, 2, none⟩ (.int .i64 za)).setCell ⟨w1.heap.size, 3, none⟩ (.int .i64 0)).setCell ⟨w1.heap.size, 4, none⟩ (.int .i64 0)) ∧ InNm qn qm y :=
 InPost.closeN (un := true) (q := 0) h st hb0 r0 hF0 hI hqn hqm ⟨Nat.zero_le _, rfl⟩ hsz h64 (fun _ _ => rfl) (Below.refl _ _) h.row hzs hza
end
theorem structN_any (d : Int) (hd : d = 0 ∨ d = 1) (F : Ty → Prop) (M : Nat) (hM : M ≤ 1000) (hF : ∀ t, F t → t.bytes ≤ M ∧ Flat t) (hT : TypeC d F) (hI : ∀ t, IntT t → F t)
  (hJ : ∀ sz sg im, F (.int sz sg im) → sz = 1 ∨ sz = 2 ∨ sz = 4 ∨ sz = 8) (hA : ∀ m u, F (.arr m u) → IntT u) (hB : ∀ t, F t → AlB t)
  (nm ns : ByteArray) (hns : ns.size ≤ 10) (n : Nat) (hn : n ≤ 8) (sv : Value) (w : World) (hs : U32s w sv n) :
  Calls Tryz.prog 7 #[sv, .string nm, .string ns, .int .i64 d] w (Made w (StrN (d = 1) F M (n * (M + 32) + 8) nm ns)) := by
 obtain ⟨sa, cap, rfl, hsl⟩ := hs
 go_enter Tryz.func7, Tryz.ntmps7
 go_wp2
 go_loopg [10, 11, 25] n (fun gk a b c wr => StrLoopN (d = 1) w (· < w.heap.size) F M w.heap.size nm ns n gk a b c wr)
 case atStart => exact ⟨0, 0, 0, _, [], fun _ => ⟨#[]⟩, fun _ => .int 0 false ⟨#[]⟩, fun _ => 0, fun _ => 0, fun _ => 0, StrSt.start w nm _ (fun _ h => h) F M _ _ _ _ _, Lib.hid (Nms.zero _ ns _ _), Nat.zero_le _, Nat.zero_le _, Nat.zero_le _, Nat.le_refl _, rfl, rfl, rfl⟩
 case round =>
  obtain ⟨k, at_, nx, v, xs, pn, py, pa, pb, pc, st, Hnm, hk, hnx, hat, hgk, rfl, rfl, rfl⟩ := hrel
  have hatb : at_ ≤ 100000 := Nat.le_trans hat (Nat.le_trans (Nat.mul_le_mul (Nat.le_trans hk hn) (by omega)) (show 8 * 8256 ≤ 100000 by decide))
  have Hat := Lib.hid hat
  clear hat
  obtain ⟨_, _, c2, _, _, c5⟩ := st.blk.six
  have f2 := st.blk.free 2
  have f5 := st.blk.free 5
  by_cases hlt : k < n
  ·rcases hsl with h0 | ⟨sb, off, rfl, hsb, hsc⟩
   ·omega
   ·obtain ⟨z, hz, hz0, hz1⟩ := hsc k hlt
    have hz' := hz
    rw [← st.old.cell (p := ⟨sb, off + k, none⟩) hsb] at hz'
    clear hz
    by_cases hnl : nx < ns.size
    ·have hsl1 := slice_one ns nx hnl
     go_wp2_with fail
     refine (hT (z / 8) _ (by omega) (by omega)).mono ?_
     rintro e w1 ⟨b0, t0, rfl, r0, hF0, hb0⟩
     go_wp2_with fail
     have hb0lt := r0.lt
     have hlt1 := hb0.size
     have hsz := hF t0 hF0
     refine (bytes_any _ b0 t0 _ (r0.alloc _) hsz.2).mono ?_
     rintro e w2 ⟨rfl, nd, rfl⟩
     obtain ⟨hsz1, -⟩ := hsz
     obtain ⟨mxb, hmx, hsz0⟩ : ∃ mxb : Nat, (if (1 : Int) < (t0.bytes : Int) then (t0.bytes : Int) else 1) = mxb ∧ 1 ≤ mxb := by
      by_cases h : (1 : Int) < (t0.bytes : Int)
      ·exact ⟨t0.bytes, by rw [if_pos h], by omega⟩
      ·exact ⟨1, by rw [if_neg h]; rfl, by omega⟩
     obtain ⟨stp, hmn, hst1, hst8⟩ : ∃ stp : Nat, (if (mxb : Int) < 8 then (mxb : Int) else 8) = stp ∧ 1 ≤ stp ∧ stp ≤ 8 := by
      by_cases h : (mxb : Int) < 8
      ·exact ⟨mxb, by rw [if_pos h], hsz0, by omega⟩
      ·exact ⟨8, by rw [if_neg h]; rfl, by omega, by omega⟩
     obtain ⟨kz, hkz⟩ : ∃ kz : Int, w1.cell? ⟨b0, 0, none⟩ = some (.int .i64 kz) := by
      obtain ⟨_, _, _, _, _, _, h, _⟩ := r0.head; exact ⟨_, h.cell 0⟩
     have HST : Hid ((kz == 3) = false → stp % max 1 (al t0) = 0) := Lib.hid fun hk3 => (hB t0 hF0).step (fun m u e => by
      rw [e] at r0
      obtain ⟨c', h0, _⟩ := r0.elem
      rw [hkz] at h0
      simp only [Option.some.injEq, Value.int.injEq, true_and] at h0
      rw [h0] at hk3
      cases hk3) hmx hmn
     go_upto_if 57 with fail
     go_cut [18] (fun s18 wx => ∃ (stp nd : Nat), s18 = .int .i64 stp ∧ 1 ≤ stp ∧ stp ≤ 8 ∧ Hid (stp % max 1 (al t0) = 0) ∧ wx = (w1.alloc (.cells #[.string (ns.extract nx (nx + 1)), .pointer (some ⟨b0, 0, none⟩), .int .i64 0, .int .i64 0, .int .i64 0] 56)).drewN nd)
     case first => as_aux_lemma =>
      rcases r0.kinds with ⟨sz, sg, inm, rfl, hk0⟩ | ⟨an, au, ac, rfl, hk0, hk4, rau⟩ | ⟨tk, hk0, tk1, tk3⟩
      all_goals
       obtain rfl : kz = _ := by simpa using hkz.symm.trans hk0
       clear hk0
      ·go_wp2_with fail
       go_meet
       exact ⟨stp, nd, rfl, hst1, hst8, Lib.hid (HST.out rfl), rfl⟩
      ·have hau := hA _ _ hF0
       have haub := hF au (hI _ hau)
       go_wp2_with fail
       refine (bytes_any _ ac au _ ((rau.alloc _).drewN _) haub.2).mono ?_
       rintro e w2 ⟨rfl, nd2, rfl⟩
       go_wp2_with fail
       go_meet
       obtain ⟨q1, q2, q3, rfl, q4, -⟩ := hau
       exact ⟨q1, _, rfl, by omega, by omega, Lib.hid (by show q1 % max 1 q1 = 0; rw [show max 1 q1 = q1 from Nat.max_eq_right (by omega)]; exact Nat.mod_self _), rfl⟩
      ·go_wp2_with fail
       go_meet
       exact ⟨stp, nd, rfl, hst1, hst8, Lib.hid (HST.out tk3), rfl⟩
     case rest =>
      obtain ⟨stp, nd, rfl, hst1, hst8, HSTP, rfl⟩ := hcut
      clear HST
      go_upto_block 2 with fail
      go_cut [10, 11] (fun s10 s11 wx => ∃ (qn : ByteArray) (qc : Nat) (qy : Ty) (qa qb at' nx' : Nat), s10 = .int .i64 at' ∧ s11 = .int .i64 nx' ∧ StrPre w (· < w.heap.size) F M at_ w.heap.size nm k v xs pn py pa pb pc wr.heap.size w1.heap.size qn qc qy qa qb wx ∧ at_ ≤ at' ∧ qa ≤ at' ∧ at' ≤ at_ + (8 * M + 256) ∧ nx' ≤ ns.size ∧ NmI (d = 1) ns nx nx' qn qy)
      case first =>
       go_upto_region 19 with fail
       go_cut [80] (fun s80 wx => ∃ (α : Bool), s80 = .bool α ∧ (α = true → ∃ sz sg inm, t0 = .int sz sg inm) ∧ wx = (w1.alloc (.cells #[.string (ns.extract nx (nx + 1)), .pointer (some ⟨b0, 0, none⟩), .int .i64 0, .int .i64 0, .int .i64 0] 56)).drewN nd)
       case first => as_aux_lemma =>
        rcases r0.kinds with ⟨sz, sg, inm, rfl, hk0⟩ | ⟨an, au, ac, rfl, hk0, hk4, rau⟩ | ⟨tk, hk0, tk1, tk3⟩
        all_goals
         obtain rfl : kz = _ := by simpa using hkz.symm.trans hk0
         clear hk0
         go_wp2_with fail
         go_meet
        ·exact ⟨_, rfl, fun _ => ⟨_, _, _, rfl⟩, rfl⟩
        ·exact ⟨_, rfl, fun h => by simp at h, rfl⟩
        ·exact ⟨_, rfl, fun h => by simp at h, rfl⟩
       case rest =>
        obtain ⟨α, rfl, hα, rfl⟩ := hcut
        cases α
        ·clear hα
         go_upto_region 25 with fail
         go_cut [127] (fun s127 wx => ∃ (β : Bool), s127 = .bool β ∧ (β = true → d = 1 ∧ nx + 1 + 1 < ns.size) ∧ wx = (w1.alloc (.cells #[.string (ns.extract nx (nx + 1)), .pointer (some ⟨b0, 0, none⟩), .int .i64 0, .int .i64 0, .int .i64 0] 56)).drewN nd)
         case first => as_aux_lemma =>
          rcases hd with rfl | rfl
          ·go_wp2_with fail
           go_meet
           exact ⟨_, rfl, fun h => by simp at h, rfl⟩
          ·by_cases h15 : (z * 2654435761 % 4294967296 / 268435456 == 15) = true
           ·go_wp2_with fail
            go_meet
            exact ⟨_, rfl, fun h => ⟨rfl, by have := of_decide_eq_true h; omega⟩, rfl⟩
           ·have h15' : (z * 2654435761 % 4294967296 / 268435456 == 15) = false := by simpa using h15
            clear h15
            go_wp2_with fail
            go_meet
            exact ⟨_, rfl, fun h => by simp at h, rfl⟩
         case rest =>
          obtain ⟨β, rfl, hβ, rfl⟩ := hcut
          cases β
          ·as_aux_lemma =>
           clear hβ
           obtain ⟨qd, at1, hqd, hqb, hpr, ha1, ha2, ha3⟩ := round_up at_ stp hst1 hst8
           go_wp2_with fail
           go_meet
           exact ⟨_, _, t0, at1, 0, at1 + 8 * t0.bytes, nx + 1, by go_num, by go_num, StrPre.of st hb0 r0 ((below_drewN ((Below.refl _ _).alloc (Nat.le_refl _) _) _).setCell (Nat.le_refl _) _) (((Blk.new _ _ _).drewN _).set 2 _) (.inl ⟨extract_one _ _ hnl, hF0, .inl ⟨rfl, mod_step ha3 HSTP.out⟩⟩), by omega, by omega, by omega, by omega, .inl ⟨rfl, Nat.le_refl _⟩⟩
          ·skip
           ·obtain ⟨hd1, hroom⟩ := hβ rfl
            clear hβ hd
            subst hd1
            have hsl2 := slice_two ns nx hroom
            have hbit := u32_mask1 (z * 2654435761 % 4294967296 / 32) (by omega) (by omega)
            go_upto_region 26 with fail
            go_cut [19] (fun s19 wx => s19 = .pointer (some ⟨w1.heap.size + 1 + 1, 0, none⟩) ∧ ∃ kd : Int, (kd = 4 ∨ kd = 5) ∧ InPre w1 (w1.heap.size + 1 + 1) kd (ns.extract nx (nx + 1)) b0 wx)
            case first =>
             rcases (by omega : z * 2654435761 % 4294967296 / 32 % 2 = 0 ∨ z * 2654435761 % 4294967296 / 32 % 2 = 1) with hp | hp
             ·as_aux_lemma =>
              rw [hp] at hbit
              clear hp
              go_wp2_with fail
              go_meet
              exact ⟨rfl, 4, .inl rfl, (((Blk.new _ _ _).drewN _).alloc _).alloc _, Blk.newAt _ _ _ (by simp), by omega, ((below_drewN ((Below.refl _ _).alloc (Nat.le_refl _) _) _).alloc (by simp) _).alloc (by simp; omega) _⟩
             ·as_aux_lemma =>
              rw [hp] at hbit
              clear hp
              go_wp2_with fail
              go_meet
              exact ⟨rfl, 5, .inr rfl, (((Blk.new _ _ _).drewN _).alloc _).alloc _, Blk.newAt _ _ _ (by simp), by omega, ((below_drewN ((Below.refl _ _).alloc (Nat.le_refl _) _) _).alloc (by simp) _).alloc (by simp; omega) _⟩
            case rest =>
            obtain ⟨rfl, kd, hkd, ip⟩ := hcut
            obtain ⟨w2, rfl⟩ : ∃ w2 : World, w2 = wc := ⟨_, rfl⟩
            have hwr : IntKind.i64.wrap ((nx : Int) + 1 + 1) = (nx : Int) + 1 + 1 := IntWalk.i64_in _ (by omega)
            have ipd : InPre w1 (w1.heap.size + 1 + 1) kd (ns.extract nx (nx + 1)) b0 w2.drew := ⟨ip.p.drew, ip.i.drew, ip.lt, ip.old.drew⟩
            have hSof : ∀ w', Blk w' w1.heap.size #[.string (ns.extract nx (nx + 1)), .pointer (some ⟨b0, 0, none⟩), .int .i64 0, .int .i64 0, .int .i64 0] 56 → Blk w' (w1.heap.size + 1 + 1) #[.int .i64 kd, .string ⟨#[]⟩, .int .i64 0, .bool false, .pointer none, .slice none 0 0] 38 → w'.cell? ⟨w1.heap.size, 0, none⟩ = some (.string (ns.extract nx (nx + 1))) ∧ w'.cell? ⟨w1.heap.size, 1, none⟩ = some (.pointer (some ⟨b0, 0, none⟩)) ∧ w'.cell? ⟨w1.heap.size, 2, none⟩ = some (.int .i64 0) ∧ w'.cell? ⟨w1.heap.size, 3, none⟩ = some (.int .i64 0) ∧ w'.cell? ⟨w1.heap.size, 4, none⟩ = some (.int .i64 0) ∧ w'.cell? ⟨w1.heap.size + 1 + 1, 5, none⟩ = some (.slice none 0 0) :=
             fun w' h1 h2 => ⟨h1.cell 0, h1.cell 1, h1.cell 2, h1.cell 3, h1.cell 4, h2.cell 5⟩
            go_upto_region 27 with fail
            refine AnyBut.start (S := (fun w' => w'.cell? ⟨w1.heap.size, 0, none⟩ = some (.string (ns.extract nx (nx + 1))) ∧ w'.cell? ⟨w1.heap.size, 1, none⟩ = some (.pointer (some ⟨b0, 0, none⟩)) ∧ w'.cell? ⟨w1.heap.size, 2, none⟩ = some (.int .i64 0) ∧ w'.cell? ⟨w1.heap.size, 3, none⟩ = some (.int .i64 0) ∧ w'.cell? ⟨w1.heap.size, 4, none⟩ = some (.int .i64 0) ∧ w'.cell? ⟨w1.heap.size + 1 + 1, 5, none⟩ = some (.slice none 0 0))) (t := 19) (by as_aux_lemma => kernel_rfl) (hSof _ ipd.p ipd.i) (fun hHeld => ?_)
            refine AnyBut.tk (i := 0) (v := ?_) rfl (by as_aux_lemma => kernel_rfl) (fun _ _ _ h => h) hHeld (by rfl) ?_ ?_
            rotate_left
            focus (intro w hSw; (try dsimp only at hSw); go_simp <;> with_reducible rfl)
            try simp only [Act.put, zl4, zl5, zl6]
            refine AnyBut.tk (i := 1) (v := ?_) rfl (by as_aux_lemma => kernel_rfl) (fun _ _ _ h => h) hHeld (by rfl) ?_ ?_
            rotate_left
            focus (intro w hSw; (try dsimp only at hSw); go_simp <;> with_reducible rfl)
            try simp only [Act.put, zl4, zl5, zl6]
            refine AnyBut.tk (i := 2) (v := ?_) rfl (by as_aux_lemma => kernel_rfl) (fun _ _ _ h => h) hHeld (by rfl) ?_ ?_
            rotate_left
            focus (intro w hSw; (try dsimp only at hSw); go_simp <;> with_reducible rfl)
            try simp only [Act.put, zl4, zl5, zl6]
            refine AnyBut.tk (i := 3) (v := ?_) rfl (by as_aux_lemma => kernel_rfl) (fun _ _ _ h => h) hHeld (by rfl) ?_ ?_
            rotate_left
            focus (intro w hSw; (try dsimp only at hSw); go_simp <;> with_reducible rfl)
            try simp only [Act.put, zl4, zl5, zl6]
            refine AnyBut.tk (i := 4) (v := ?_) rfl (by as_aux_lemma => kernel_rfl) (fun _ _ _ h => h) hHeld (by rfl) ?_ ?_
            rotate_left
            focus (intro w hSw; (try dsimp only at hSw); go_simp <;> with_reducible rfl)
            try simp only [Act.put, zl4, zl5, zl6]
            refine AnyBut.tk (i := 5) (v := ?_) rfl (by as_aux_lemma => kernel_rfl) (fun _ _ _ h => h) hHeld (by rfl) ?_ ?_
            rotate_left
            focus (intro w hSw; (try dsimp only at hSw); go_simp <;> with_reducible rfl)
            try simp only [Act.put, zl4, zl5, zl6]
            refine AnyBut.tk (i := 6) (v := ?_) rfl (by as_aux_lemma => kernel_rfl) (fun _ _ _ h => h) hHeld (by rfl) ?_ ?_
            rotate_left
            focus (intro w hSw; (try dsimp only at hSw); go_simp <;> with_reducible rfl)
            try simp only [Act.put, zl4, zl5, zl6]
            refine AnyBut.tk (i := 7) (v := ?_) rfl (by as_aux_lemma => kernel_rfl) (fun _ _ _ h => h) hHeld (by rfl) ?_ ?_
            rotate_left
            focus (intro w hSw; (try dsimp only at hSw); go_simp <;> with_reducible rfl)
            try simp only [Act.put, zl4, zl5, zl6]
            refine AnyBut.tk (i := 8) (v := ?_) rfl (by as_aux_lemma => kernel_rfl) (fun _ _ _ h => h) hHeld (by rfl) ?_ ?_
            rotate_left
            focus (intro w hSw; (try dsimp only at hSw); go_simp <;> with_reducible rfl)
            try simp only [Act.put, zl4, zl5, zl6]
            refine AnyBut.tk (i := 9) (v := ?_) rfl (by as_aux_lemma => kernel_rfl) (fun _ _ _ h => h) hHeld (by rfl) ?_ ?_
            rotate_left
            focus (intro w hSw; (try dsimp only at hSw); go_simp <;> with_reducible rfl)
            try simp only [Act.put, zl4, zl5, zl6]
            refine AnyBut.tk (i := 10) (v := ?_) rfl (by as_aux_lemma => kernel_rfl) (fun _ _ _ h => h) hHeld (by rfl) ?_ ?_
            rotate_left
            focus (intro w hSw; (try dsimp only at hSw); go_simp <;> with_reducible rfl)
            try simp only [Act.put, zl4, zl5, zl6]
            refine AnyBut.tk (i := 11) (v := ?_) rfl (by as_aux_lemma => kernel_rfl) (fun _ _ _ h => h) hHeld (by rfl) ?_ ?_
            rotate_left
            focus (intro w hSw; (try dsimp only at hSw); go_simp <;> with_reducible rfl)
            try simp only [Act.put, zl4, zl5, zl6]
            refine AnyBut.tk (i := 12) (v := ?_) rfl (by as_aux_lemma => kernel_rfl) (fun _ _ _ h => h) hHeld (by rfl) ?_ ?_
            rotate_left
            focus (intro w hSw; (try dsimp only at hSw); go_simp <;> with_reducible rfl)
            try simp only [Act.put, zl4, zl5, zl6]
            refine AnyBut.one (i := 13) (by as_aux_lemma => kernel_rfl) rfl (fun K hK => ?_)
            go_simp
            go_at_call 23
            refine (intOf_int (z * 2654435761 % 4294967296 / 128) _ (by omega) (by omega)).mono ?_
            rintro e wA ⟨bi, it, rfl, ri, hit, hbi⟩
            have hpA := ipd.p.old hbi
            have hiA := ipd.i.old hbi
            have hwA := hbi.size
            have hiA2 : w1.heap.size + 1 + 1 < wA.heap.size := hiA.lt
            refine hK.out _ _ (hSof _ hpA hiA) (fun hHeld => ?_)
            clear hK K
            try simp only [Act.put, zl4, zl5, zl6]
            refine AnyBut.tk (i := 14) (v := ?_) rfl (by as_aux_lemma => kernel_rfl) (fun _ _ _ h => h) hHeld (by rfl) ?_ ?_
            rotate_left
            focus (intro w hSw; (try dsimp only at hSw); go_simp <;> with_reducible rfl)
            try simp only [Act.put, zl4, zl5, zl6]
            refine AnyBut.one (i := 15) (by as_aux_lemma => kernel_rfl) rfl (fun K hK => ?_)
            go_simp
            refine hK.out _ _ (hSof _ (hpA.alloc _) (hiA.alloc _)) (fun hHeld => ?_)
            clear hK K
            try simp only [Act.put, zl4, zl5, zl6]
            refine AnyBut.one (i := 16) (by as_aux_lemma => kernel_rfl) rfl (fun K hK => ?_)
            refine step_app elemParts (.tmp 154) (.tmp 165) rfl rfl (w1.heap.size + 1 + 1 + 1) (.slice none 0 0) 0 [] rfl (World.ownsRow_nil _ _ _ _) wA.heap.size 2 2 #[.string (ns.extract nx (nx + 1)), .pointer (some ⟨b0, 0, none⟩), .int .i64 0, .int .i64 0, .int .i64 0, .string (ns.extract (nx + 1) (nx + 1 + 1)), .pointer (some ⟨bi, 0, none⟩), .int .i64 0, .int .i64 0, .int .i64 0] rfl (Blk.new _ _ _) rfl rfl (by decide) ?_ (by omega) (by decide) (by simp; omega)
            intro g cap' w5 ha
            have hpB := (hpA.alloc _).app ha (World.ownsRow_nil _ _ _ _) (by omega)
            have hiB := (hiA.alloc _).app ha (World.ownsRow_nil _ _ _ _) (Nat.lt_succ_self _)
            have d5 := hiB.cell 5
            have e5 := hiB.free 5
            simp only [List.getElem?_toArray, List.getElem?_cons_succ, List.getElem?_cons_zero] at d5
            refine hK.out _ _ (hSof _ hpB hiB) (fun hHeld => ?_)
            clear hK K
            try simp only [Act.put, zl4, zl5, zl6]
            refine AnyBut.tk (i := 17) (v := ?_) rfl (by as_aux_lemma => kernel_rfl) (fun _ _ _ h => h) hHeld (by rfl) ?_ ?_
            rotate_left
            focus (intro w hSw; (try dsimp only at hSw); go_simp <;> with_reducible rfl)
            try simp only [Act.put, zl4, zl5, zl6]
            refine AnyBut.tk (i := 18) (v := ?_) rfl (by as_aux_lemma => kernel_rfl) (fun _ _ _ h => h) hHeld (by rfl) ?_ ?_
            rotate_left
            focus (intro w hSw; (try dsimp only at hSw); go_simp <;> with_reducible rfl)
            try simp only [Act.put, zl4, zl5, zl6]
            refine AnyBut.last (by as_aux_lemma => kernel_rfl) rfl (by as_aux_lemma => kernel_rfl) (fun K hK => ?_)
            go_simp
            refine hK.out _ _ ?_
            clear hK K
            try simp only [Act.put, zl4, zl5, zl6]
            have ip5 := ip.post hit ri (below_undrew hbi) ha
            clear hpA hiA hpB hiB d5 e5 hHeld hSof ipd ha
            generalize w5.setCell ⟨w1.heap.size + 1 + 1, 5, none⟩ (.slice (some ⟨g, 0, none⟩) 2 cap') = w6 at ip5 ⊢
            obtain ⟨cur, hcur, hcs, hc2, hcm, htk⟩ := ip5.row
            have hg7 : w6.cell? ⟨g, 7, none⟩ = some (.int .i64 0) := by
             rw [hcur.cell 7, ← Array.getElem?_toList, ← List.getElem?_take_of_lt (show 7 < 10 by decide), htk]; rfl
            have hf7 := hcur.free 7
            obtain ⟨i0, -, i2, -, -, i5⟩ := ip5.i.six
            have fi2 := ip5.i.free 2
            obtain ⟨p0, p1, p2, p3, p4⟩ := ip5.p.five
            have fp0 := ip5.p.free 0
            have fp1 := ip5.p.free 1
            have fp2 := ip5.p.free 2
            have fp3 := ip5.p.free 3
            have fp4 := ip5.p.free 4
            have hig := ip5.gt
            clear hsl1 hsl2 hbit
            rcases hkd with rfl | rfl
            ·go_wp2_with fail
             go_meet
             obtain ⟨y, hpre, hyn⟩ := ip5.close4N (q := 64 * ((t0.bytes + 7) / 8)) (sz := 8 * ((t0.bytes + 7) / 8 + 1)) (a1 := (at_ + 63) / 64 * 64) (zq := 64 * ((↑t0.bytes + 7) / 8)) (zs := 8 * ((↑t0.bytes + 7) / 8 + 1)) (za := (↑at_ + 63) / 64 * 64) st hb0 r0 hF0 hI (extract_one ns nx hnl) (extract_one ns (nx + 1) (by omega)) (by omega) (by omega) (by omega) (by omega) (by omega) (by omega)
             refine ⟨_, _, y, (at_ + 63) / 64 * 64, 0, (at_ + 63) / 64 * 64 + 8 * (8 * ((t0.bytes + 7) / 8 + 1)), nx + 1 + 1, ?_, congrArg (Value.int .i64) (by omega), hpre, ?_, ?_, ?_, ?_, .inr ⟨rfl, rfl, hyn, Nat.le_refl _⟩⟩
             ·exact congrArg (Value.int .i64) (by omega)
             all_goals omega
            ·go_wp2_with fail
             go_meet
             obtain ⟨y, hpre, hyn⟩ := ip5.close5N (sz := 8 * ((t0.bytes + 7) / 8 + 1)) (a1 := (at_ + 63) / 64 * 64) (zs := 8 * ((↑t0.bytes + 7) / 8 + 1)) (za := (↑at_ + 63) / 64 * 64) st hb0 r0 hF0 hI (extract_one ns nx hnl) (extract_one ns (nx + 1) (by omega)) (by omega) (by omega) (by omega) (by omega)
             refine ⟨_, _, y, (at_ + 63) / 64 * 64, 0, (at_ + 63) / 64 * 64 + 8 * (8 * ((t0.bytes + 7) / 8 + 1)), nx + 1 + 1, ?_, congrArg (Value.int .i64) (by omega), hpre, ?_, ?_, ?_, ?_, .inr ⟨rfl, rfl, hyn, Nat.le_refl _⟩⟩
             ·exact congrArg (Value.int .i64) (by omega)
             all_goals omega
        ·as_aux_lemma =>
         obtain ⟨sz, sg, inm, rfl⟩ := hα rfl
         clear hα
         have hj8 := hJ _ _ _ hF0
         have hbb : (Ty.int sz sg inm).bytes = sz := rfl
         have hsz0' : 1 ≤ sz := by omega
         rw [hbb] at hsz1 hmx ⊢
         clear hbb
         have hbz8 : sz ≤ 8 := by omega
         obtain ⟨bt, hbt, hb1, hb2⟩ : ∃ bt : Nat, 1 + z * 2654435761 % 4294967296 / 256 % (8 * (sz : Int)) = (bt : Int) ∧ 1 ≤ bt ∧ bt ≤ 8 * sz := by
          have hq1 : 0 ≤ z * 2654435761 % 4294967296 / 256 % (8 * (sz : Int)) := Int.emod_nonneg _ (by omega)
          have hq2 : z * 2654435761 % 4294967296 / 256 % (8 * (sz : Int)) < 8 * (sz : Int) := Int.emod_lt_of_pos _ (by omega)
          exact ⟨(1 + z * 2654435761 % 4294967296 / 256 % (8 * (sz : Int))).toNat, by omega, by omega, by omega⟩
         have hr1 : 0 ≤ (at_ : Int) % (8 * (sz : Int)) := Int.emod_nonneg _ (by omega)
         have hr2 : (at_ : Int) % (8 * (sz : Int)) < 8 * (sz : Int) := Int.emod_lt_of_pos _ (by omega)
         have hmc := Lib.hid (mod_cast8 at_ sz)
         by_cases hfit : 8 * (sz : Int) < (at_ : Int) % (8 * (sz : Int)) + bt
         ·obtain ⟨qd, at1, hqd, hqb, hpr, ha1, ha2, ha3⟩ := round_up at_ sz hsz0' hbz8
          go_wp2_with fail
          go_quiet (fail)
          go_wp2_with fail
          go_meet
          exact ⟨_, _, .int sz sg inm, at1, bt, at1 + bt, nx + 1, by go_num, by go_num, StrPre.of st hb0 r0 ((below_drewN ((below_drewN ((Below.refl _ _).alloc (Nat.le_refl _) _) _).setCell (Nat.le_refl _) _) _).setCell (Nat.le_refl _) _) ((((Blk.new _ _ _).drewN _).set 3 _).drewN _ |>.set 2 _) (.inl ⟨extract_one _ _ hnl, hF0, .inr ⟨_, _, _, rfl, ⟨hb1, hb2⟩, by omega⟩⟩), by omega, by omega, by omega, by omega, .inl ⟨rfl, Nat.le_refl _⟩⟩
         ·go_wp2_with fail
          go_quiet (fail)
          go_wp2_with fail
          go_meet
          exact ⟨_, _, .int sz sg inm, at_, bt, at_ + bt, nx + 1, by go_num, by go_num, StrPre.of st hb0 r0 ((below_drewN ((below_drewN ((Below.refl _ _).alloc (Nat.le_refl _) _) _).setCell (Nat.le_refl _) _) _).setCell (Nat.le_refl _) _) ((((Blk.new _ _ _).drewN _).set 3 _).drewN _ |>.set 2 _) (.inl ⟨extract_one _ _ hnl, hF0, .inr ⟨_, _, _, rfl, ⟨hb1, hb2⟩, by have := hmc.out; omega⟩⟩), by omega, by omega, by omega, by omega, .inl ⟨rfl, Nat.le_refl _⟩⟩
      case rest =>
       obtain ⟨qn, qc, qy, qa, qb, at', nx', rfl, rfl, pre, hat1, hat2, hat3, hnx3, hqnm⟩ := hcut
       obtain ⟨p0, p1, p2, p3, p4⟩ := pre.blk.five
       obtain ⟨-, -, -, -, -, q5⟩ := pre.st.blk.six
       have g5 := pre.st.blk.free 5
       have pown := pre.st.own
       clear c2 c5 f2 f5
       have hk63 : k + 1 ≤ maxLen := by unfold maxLen; omega
       have hbase : w.heap.size + 1 ≤ wc.heap.size := pre.st.blk.lt
       have hlt3 : w.heap.size < wc.heap.size := pre.st.blk.lt
       have hlt4 : w1.heap.size < wc.heap.size := pre.blk.lt
       go_upto_region 35 with fail
       apply wp_meet (fun g cap' w4 w' => Appended (wc.alloc (.cells #[.string qn, .pointer (some ⟨qc, 0, none⟩), .int .i64 qa, .int .i64 qb, .int .i64 0] 56)).drew (w.heap.size + 1) 56 5 v k 1 xs [.string qn, .pointer (some ⟨qc, 0, none⟩), .int .i64 qa, .int .i64 qb, .int .i64 0] g cap' w4 ∧ w' = w4.setCell ⟨w.heap.size, 5, none⟩ (.slice (some ⟨g, 0, none⟩) (k + 1) cap'))
       ·go_region_law ((refine step_app elemParts (.tmp 212) (.tmp 214) rfl rfl (w.heap.size + 1) v k xs rfl (by first | exact pown | exact pown.alloc _) wc.heap.size 1 1 #[.string qn, .pointer (some ⟨qc, 0, none⟩), .int .i64 qa, .int .i64 qb, .int .i64 0] rfl (by first | exact Blk.new _ _ _ | exact (Blk.new _ _ _).drew) rfl rfl (by decide) ?_ (by omega) hk63 (by first | exact hbase | (simp; omega)); intro g cap' w4 ha; have d5 := (Blk.app (b := w.heap.size) (by first | exact pre.st.blk.alloc _ | exact (pre.st.blk.alloc _).drew) ha (by first | exact pown | exact pown.alloc _) (Nat.lt_succ_self _)).cell 5; have e5 := (Blk.app (b := w.heap.size) (by first | exact pre.st.blk.alloc _ | exact (pre.st.blk.alloc _).drew) ha (by first | exact pown | exact pown.alloc _) (Nat.lt_succ_self _)).free 5; simp only [List.getElem?_toArray, List.getElem?_cons_succ, List.getElem?_cons_zero] at d5))
        all_goals exact ⟨g, cap', w4, ⟨ha, rfl⟩, rfl⟩
       ·rintro g cap' w4 w' ⟨ha, rfl⟩
        clear p0 p1 p2 p3 p4 q5 g5 hbase hlt3 hlt4 pown hk63
        go_wp2_with fail
        go_roundg (n - (k + 1))
        case measure => omega
        case rel => exact ⟨k + 1, at', nx', _, _, _, _, _, _, _, pre.step ha hat1 hat2, Lib.hid (Hnm.out.step hqnm), by omega, hnx3, at_step Hat.out hat3, Nat.le_refl _, rfl, rfl, by go_num⟩
    ·go_wp2_with fail
     go_ret
     exact st.madeN (by omega) (by omega) (sz_done Hat.out hk) hnx Hnm.out
  ·have hke : k = n := by omega
   have Hke := Lib.hid hke
   clear hke
   go_wp2_with fail
   go_ret
   exact st.madeN (by omega) (by omega) (sz_done Hat.out hk) hnx Hnm.out
end Go.Proofs.YtfilbgmbmlmdbaaGreatDoor
