/- The package's search for a field by an accessor: words for its walk. Nothing is claimed here. -/
import Derived.Test.YtfilbgmbmlmdbaaGreatDoorZ20
import Derived.Test.YtfilbgmbmlmdbaaGreatDoorZ16
import Derived.Test.YtfilbgmbmlmdbaaGreatDoorZ12
import Derived.Test.YtfilbgmbmlmdbaaGreatDoorZ06
set_option linter.unusedSimpArgs false
set_option linter.unusedVariables false
set_option maxRecDepth 1000000
set_option maxHeartbeats 16000000
namespace Go.Proofs.YtfilbgmbmlmdbaaGreatDoor
open Go.RowKit Go.MapKept
structure KSt (T : Two) (W : World) (z6 z7 ra rb ia ib B : Nat) (s : FS) (w : World) : Prop where
 b6 : Blk w z6 (cfC .nilIface 0 0 0) 137
 b7 : Blk w z7 (cfC .nilIface 0 0 0) 137
 ba : Blk w ra (cfC (objAt T.pt1 T.ob1 ia) (s.ao : Nat) (s.af : Nat) (s.ab : Nat)) 137
 bb : Blk w rb (cfC (objAt T.pt2 T.ob2 ib) (s.bo : Nat) (s.bf : Nat) (s.bb : Nat)) 137
 old : Below W.heap.size W w
 ta : RT T.f1 ia s.a
 tb : RT T.f2 ib s.b
 la : ia < T.n1
 lb : ib < T.n2
 oka : FOk s.a
 okb : FOk s.b
 bnd : s.ao ≤ B ∧ s.bo ≤ B
def KRes (T : Two) (W : World) (a : Addr) (r : FS × Out) (e : Ending) (w' : World) : Prop := Below W.heap.size W w' ∧ (match r.2 with
 | .found => ∃ ia ib, e = .returned (.tuple #[.agg (cfC (objAt T.pt1 T.ob1 ia) (r.1.ao : Nat) (r.1.af : Nat) (r.1.ab : Nat)), .agg (cfC (objAt T.pt2 T.ob2 ib) (r.1.bo : Nat) (r.1.bf : Nat) (r.1.bb : Nat)), .nilIface]) ∧ RT T.f1 ia r.1.a ∧ RT T.f2 ib r.1.b ∧ ia < T.n1 ∧ ib < T.n2 ∧ FOk r.1.a ∧ FOk r.1.b ∧ r.1.ao ≤ 61000000 ∧ r.1.bo ≤ 61000000
 | .poison => e = .returned (.tuple #[.agg (cfC .nilIface 0 0 0), .agg (cfC .nilIface 0 0 0), .iface 228 (.pointer (some a))])
 | .wrong => ∃ ev, e = .returned (.tuple #[.agg (cfC .nilIface 0 0 0), .agg (cfC .nilIface 0 0 0), ev]) ∧ OtherErr a w' ev)
structure KEnd (W : World) (z6 z7 : Nat) (v6 v7 : Array Value) (w : World) : Prop where
 b6 : Blk w z6 v6 137
 b7 : Blk w z7 v7 137
 old : Below W.heap.size W w
structure KCtx (T : Two) (W : World) (a : Addr) (v5 : Value) (g L cap z6 z7 ra rb plen : Nat) : Prop where
 hL : L ≤ 5
 hg : g < W.heap.size
 hcap : L ≤ cap
 hlen : plen + 1 = L
 hL2 : 2 ≤ L
 dst : Dst W z6 z7 ra rb
 pk : Pkg T W a
 s5 : W.cell? ⟨6, 0, none⟩ = some v5
 o5 : OtherErr a W v5
 la : a.block < W.heap.size
theorem Below.but {W w w' : World} {mb : Nat} (h : Below W.heap.size W w) (hm : ButMap mb w w') (hB : W.heap.size ≤ mb) : Below W.heap.size W w' :=
 ⟨hm.os.trans h.os, hm.tape.trans h.tape, hm.output.trans h.output, Nat.le_trans h.size hm.size, fun k hk => (hm.block k (Nat.lt_of_lt_of_le hk h.size) (by omega)).trans (h.block k hk)⟩
section
variable {T : Two} {W w : World} {z6 z7 ra rb ia ib B : Nat} {s : FS}
theorem KSt.below {w' : World} {B' : Nat} (h : KSt T W z6 z7 ra rb ia ib B s w) (hb : Below w.heap.size w w') (hB : B ≤ B') : KSt T W z6 z7 ra rb ia ib B' s w' :=
 ⟨h.b6.old hb, h.b7.old hb, h.ba.old hb, h.bb.old hb, h.old.trans (hb.mono h.old.size), h.ta, h.tb, h.la, h.lb, h.oka, h.okb, Nat.le_trans h.bnd.1 hB, Nat.le_trans h.bnd.2 hB⟩
theorem KSt.drew (h : KSt T W z6 z7 ra rb ia ib B s w) : KSt T W z6 z7 ra rb ia ib B s w.drew :=
 ⟨h.b6.drew, h.b7.drew, h.ba.drew, h.bb.drew, h.old.drew, h.ta, h.tb, h.la, h.lb, h.oka, h.okb, h.bnd⟩
theorem KSt.zeros (h : KSt T W z6 z7 ra rb ia ib B s w) (D : Dst W z6 z7 ra rb) : KEnd W z6 z7 (cfC .nilIface 0 0 0) (cfC .nilIface 0 0 0) ((((((((w.setCell ⟨z6, 0, none⟩ .nilIface).setCell ⟨z6, 1, none⟩ (.int .u32 0)).setCell ⟨z6, 2, none⟩ (.int .u32 0)).setCell ⟨z6, 3, none⟩ (.int .u32 0)).setCell ⟨z7, 0, none⟩ .nilIface).setCell ⟨z7, 1, none⟩ (.int .u32 0)).setCell ⟨z7, 2, none⟩ (.int .u32 0)).setCell ⟨z7, 3, none⟩ (.int .u32 0)) :=
 ⟨h.b6.sets4.far4 D.d67, (h.b7.far4 D.d67.symm).sets4, below4 (below4 h.old D.l6 _ _ _ _) D.l7 _ _ _ _⟩
theorem NewErr.zeros {lo : Nat} {ev : Value} (h : NewErr lo w ev) (h6 : z6 < lo) (h7 : z7 < lo) : NewErr lo ((((((((w.setCell ⟨z6, 0, none⟩ .nilIface).setCell ⟨z6, 1, none⟩ (.int .u32 0)).setCell ⟨z6, 2, none⟩ (.int .u32 0)).setCell ⟨z6, 3, none⟩ (.int .u32 0)).setCell ⟨z7, 0, none⟩ .nilIface).setCell ⟨z7, 1, none⟩ (.int .u32 0)).setCell ⟨z7, 2, none⟩ (.int .u32 0)).setCell ⟨z7, 3, none⟩ (.int .u32 0)) ev :=
 (((((((h.set (p := ⟨z6, 0, none⟩) h6 _).set (p := ⟨z6, 1, none⟩) h6 _).set (p := ⟨z6, 2, none⟩) h6 _).set (p := ⟨z6, 3, none⟩) h6 _).set (p := ⟨z7, 0, none⟩) h7 _).set (p := ⟨z7, 1, none⟩) h7 _).set (p := ⟨z7, 2, none⟩) h7 _).set (p := ⟨z7, 3, none⟩) h7 _
theorem KEnd.drew {v6 v7 : Array Value} (h : KEnd W z6 z7 v6 v7 w) : KEnd W z6 z7 v6 v7 w.drew := ⟨h.b6.drew, h.b7.drew, h.old.drew⟩
theorem KSt.gives (h : KSt T W z6 z7 ra rb ia ib B s w) (D : Dst W z6 z7 ra rb) (v6 v7 : Value) (a1 a2 a3 b1 b2 b3 : Int) : KEnd W z6 z7 (cfC v6 a1 a2 a3) (cfC v7 b1 b2 b3) ((((((((w.setCell ⟨z6, 0, none⟩ v6).setCell ⟨z6, 1, none⟩ (.int .u32 a1)).setCell ⟨z6, 2, none⟩ (.int .u32 a2)).setCell ⟨z6, 3, none⟩ (.int .u32 a3)).setCell ⟨z7, 0, none⟩ v7).setCell ⟨z7, 1, none⟩ (.int .u32 b1)).setCell ⟨z7, 2, none⟩ (.int .u32 b2)).setCell ⟨z7, 3, none⟩ (.int .u32 b3)) :=
 ⟨h.b6.sets4.far4 D.d67, (h.b7.far4 D.d67.symm).sets4, below4 (below4 h.old D.l6 _ _ _ _) D.l7 _ _ _ _⟩
theorem KSt.putA {ia' B' : Nat} {s' : FS} {v1 v2 v3 : Int} (h : KSt T W z6 z7 ra rb ia ib B s w) (D : Dst W z6 z7 ra rb) (h1 : v1 = (s'.ao : Nat)) (h2 : v2 = (s'.af : Nat)) (h3 : v3 = (s'.ab : Nat)) (k0 : s'.b = s.b) (k1 : s'.bo = s.bo) (k2 : s'.bb = s.bb) (k3 : s'.bf = s.bf)
  (ta : RT T.f1 ia' s'.a) (la : ia' < T.n1) (oka : FOk s'.a) (hb : s'.ao ≤ B' ∧ s'.bo ≤ B') : KSt T W z6 z7 ra rb ia' ib B' s' ((((w.setCell ⟨ra, 0, none⟩ (objAt T.pt1 T.ob1 ia')).setCell ⟨ra, 1, none⟩ (.int .u32 v1)).setCell ⟨ra, 2, none⟩ (.int .u32 v2)).setCell ⟨ra, 3, none⟩ (.int .u32 v3)) := by
 subst h1 h2 h3
 refine ⟨h.b6.far4 D.d6a, h.b7.far4 D.d7a, h.ba.sets4, ?_, below4 h.old D.la _ _ _ _, ta, k0 ▸ h.tb, la, h.lb, oka, k0 ▸ h.okb, hb⟩
 rw [k1, k2, k3]
 exact h.bb.far4 D.dab.symm
theorem KSt.putB {ib' B' : Nat} {s' : FS} {v1 v2 v3 : Int} (h : KSt T W z6 z7 ra rb ia ib B s w) (D : Dst W z6 z7 ra rb) (h1 : v1 = (s'.bo : Nat)) (h2 : v2 = (s'.bf : Nat)) (h3 : v3 = (s'.bb : Nat)) (k0 : s'.a = s.a) (k1 : s'.ao = s.ao) (k2 : s'.ab = s.ab) (k3 : s'.af = s.af)
  (tb : RT T.f2 ib' s'.b) (lb : ib' < T.n2) (okb : FOk s'.b) (hb : s'.ao ≤ B' ∧ s'.bo ≤ B') : KSt T W z6 z7 ra rb ia ib' B' s' ((((w.setCell ⟨rb, 0, none⟩ (objAt T.pt2 T.ob2 ib')).setCell ⟨rb, 1, none⟩ (.int .u32 v1)).setCell ⟨rb, 2, none⟩ (.int .u32 v2)).setCell ⟨rb, 3, none⟩ (.int .u32 v3)) := by
 subst h1 h2 h3
 refine ⟨h.b6.far4 D.d6b, h.b7.far4 D.d7b, ?_, h.bb.sets4, below4 h.old D.lb _ _ _ _, k0 ▸ h.ta, tb, h.la, lb, k0 ▸ h.oka, okb, hb⟩
 rw [k1, k2, k3]
 exact h.ba.far4 D.dab
theorem KSt.offA {B' : Nat} {s' : FS} {v1 : Int} (h : KSt T W z6 z7 ra rb ia ib B s w) (D : Dst W z6 z7 ra rb) (h1 : v1 = (s'.ao : Nat)) (j0 : s'.a = s.a) (j2 : s'.ab = s.ab) (j3 : s'.af = s.af) (k0 : s'.b = s.b) (k1 : s'.bo = s.bo) (k2 : s'.bb = s.bb) (k3 : s'.bf = s.bf) (hb : s'.ao ≤ B' ∧ s'.bo ≤ B') :
  KSt T W z6 z7 ra rb ia ib B' s' (w.setCell ⟨ra, 1, none⟩ (.int .u32 v1)) := by
 subst h1
 refine ⟨h.b6.other (p := ⟨ra, 1, none⟩) D.d6a _, h.b7.other (p := ⟨ra, 1, none⟩) D.d7a _, ?_, ?_, h.old.setCell (p := ⟨ra, 1, none⟩) D.la _, j0 ▸ h.ta, k0 ▸ h.tb, h.la, h.lb, j0 ▸ h.oka, k0 ▸ h.okb, hb⟩
 ·rw [j2, j3]; exact h.ba.set 1 _
 ·rw [k1, k2, k3]; exact h.bb.other (p := ⟨ra, 1, none⟩) D.dab.symm _
theorem KSt.offB {B' : Nat} {s' : FS} {v1 : Int} (h : KSt T W z6 z7 ra rb ia ib B s w) (D : Dst W z6 z7 ra rb) (h1 : v1 = (s'.bo : Nat)) (j0 : s'.b = s.b) (j2 : s'.bb = s.bb) (j3 : s'.bf = s.bf) (k0 : s'.a = s.a) (k1 : s'.ao = s.ao) (k2 : s'.ab = s.ab) (k3 : s'.af = s.af) (hb : s'.ao ≤ B' ∧ s'.bo ≤ B') :
  KSt T W z6 z7 ra rb ia ib B' s' (w.setCell ⟨rb, 1, none⟩ (.int .u32 v1)) := by
 subst h1
 refine ⟨h.b6.other (p := ⟨rb, 1, none⟩) D.d6b _, h.b7.other (p := ⟨rb, 1, none⟩) D.d7b _, ?_, ?_, h.old.setCell (p := ⟨rb, 1, none⟩) D.lb _, k0 ▸ h.ta, j0 ▸ h.tb, h.la, h.lb, k0 ▸ h.oka, j0 ▸ h.okb, hb⟩
 ·rw [k1, k2, k3]; exact h.ba.other (p := ⟨rb, 1, none⟩) D.dab _
 ·rw [j2, j3]; exact h.bb.set 1 _
theorem KSt.butA {w' : World} {B' : Nat} {s' : FS} (h : KSt T W z6 z7 ra rb ia ib B s w) (D : Dst W z6 z7 ra rb) (hb : Blk w' ra (cfC (objAt T.pt1 T.ob1 ia) (s'.ao : Nat) (s'.af : Nat) (s'.ab : Nat)) 137) (hm : ButMap ra w w') (j0 : s'.a = s.a) (k0 : s'.b = s.b) (k1 : s'.bo = s.bo) (k2 : s'.bb = s.bb) (k3 : s'.bf = s.bf) (hB : s'.ao ≤ B' ∧ s'.bo ≤ B') :
  KSt T W z6 z7 ra rb ia ib B' s' w' := by
 refine ⟨h.b6.of_eq (hm.block _ h.b6.lt D.d6a), h.b7.of_eq (hm.block _ h.b7.lt D.d7a), hb, ?_, Below.but h.old hm D.la, j0 ▸ h.ta, k0 ▸ h.tb, h.la, h.lb, j0 ▸ h.oka, k0 ▸ h.okb, hB⟩
 rw [k1, k2, k3]
 exact h.bb.of_eq (hm.block _ h.bb.lt D.dab.symm)
theorem KSt.butB {w' : World} {B' : Nat} {s' : FS} (h : KSt T W z6 z7 ra rb ia ib B s w) (D : Dst W z6 z7 ra rb) (hb : Blk w' rb (cfC (objAt T.pt2 T.ob2 ib) (s'.bo : Nat) (s'.bf : Nat) (s'.bb : Nat)) 137) (hm : ButMap rb w w') (j0 : s'.b = s.b) (k0 : s'.a = s.a) (k1 : s'.ao = s.ao) (k2 : s'.ab = s.ab) (k3 : s'.af = s.af) (hB : s'.ao ≤ B' ∧ s'.bo ≤ B') :
  KSt T W z6 z7 ra rb ia ib B' s' w' := by
 refine ⟨h.b6.of_eq (hm.block _ h.b6.lt D.d6b), h.b7.of_eq (hm.block _ h.b7.lt D.d7b), ?_, hb, Below.but h.old hm D.lb, k0 ▸ h.ta, j0 ▸ h.tb, h.la, h.lb, k0 ▸ h.oka, j0 ▸ h.okb, hB⟩
 rw [k1, k2, k3]
 exact h.ba.of_eq (hm.block _ h.ba.lt D.dab)
end
section
variable {w : World} {n og i : Nat} {f : Nat → RowD} {pt : Nat → TypeId} {ob : Nat → Nat}
theorem taNoArr (u : TypeId) (h : u ≠ 167) (W : World) (v : Value) : (Instr.typeAssert (.iface u v) 77 167 true).run Tryz.prog W = .ok (.tuple #[.pointer none, .bool false]) W := ta_no Tryz.underlying167 (fun W => by kernel_rfl) u h W v
theorem Outs.arrF (h : Outs w n f og pt ob) (hR : Refs n f) (hi : i < n) {m : Nat} {u : Ty} (r : RT f i (.arr m u)) : pt (i + 1) = 167 ∧ und f i = i ∧ ∃ j, j < n ∧ RT f j u ∧ w.cell? ⟨ob (i + 1), 1, none⟩ = some (objAt pt ob j) ∧ w.cell? ⟨ob (i + 1), 2, none⟩ = some (.int .u32 (m : Nat)) := by
 cases r with
 | @arr _ j x _ _ hk hs ho hx' rx r =>
  have hof := hR.of_ _ hi
  obtain ⟨-, h1, h2, -⟩ := h.arrCell hi hk ho hx'
  rw [hs] at h2
  exact ⟨(h.kindOf hi hk).2.2.1 rfl, if_neg (by omega), j, by omega, r, h1, h2⟩
theorem Outs.arrT (h : Outs w n f og pt ob) (hR : Refs n f) (hi : i < n) {m : Nat} {u : Ty} (r : RT f i (.arr m u)) : (∀ W, (Instr.typeAssert (objAt pt ob i) 77 177 true).run Tryz.prog W = .ok (.tuple #[.nilIface, .bool false]) W) ∧
  (∀ W, (Instr.typeAssert (objAt pt ob i) 77 167 true).run Tryz.prog W = .ok (.tuple #[.pointer (some ⟨ob (i + 1), 0, none⟩), .bool true]) W) := by
 obtain ⟨z, hz, -, ha1⟩ := h.compA hi r rfl
 obtain rfl := hz rfl
 refine ⟨ha1, fun W => ?_⟩
 simp only [objAt, (h.arrF hR hi r).1]
 exact ta_yes Tryz.underlying167 W _
theorem asArr_yes (h : Outs w n f og pt ob) (hi : i < n) (hp : Peels n f) {m : Nat} {u : Ty} (r : RT f i (.arr m u)) :
  Calls Tryz.prog 85 #[objAt pt ob i] w fun e w' => e = .returned (.tuple #[.pointer (some ⟨ob (i + 1), 0, none⟩), .bool true]) ∧ w' = w := by
 refine (show Calls Tryz.prog 85 #[objAt pt ob i] w _ from As_Array w n og i f pt ob h hi (hp i hi)).mono ?_
 rintro e w' ⟨rfl, he⟩
 have hk : (f i).k = 3 := r.kind
 rw [show asRow 3 f i = some i from if_pos hk] at he
 exact ⟨he.2.2, rfl⟩
theorem asArr_no (h : Outs w n f og pt ob) (hi : i < n) (hp : Peels n f) {t : Ty} (r : RT f i t) (hna : ∀ m u, t ≠ .arr m u) :
  Calls Tryz.prog 85 #[objAt pt ob i] w fun e w' => e = .returned (.tuple #[.pointer none, .bool false]) ∧ w' = w := by
 refine (show Calls Tryz.prog 85 #[objAt pt ob i] w _ from As_Array w n og i f pt ob h hi (hp i hi)).mono ?_
 rintro e w' ⟨rfl, he⟩
 have hk := r.kind
 have h3 : ¬ (f i).k = 3 := by
  rw [hk]
  cases t with
  | arr m u => exact absurd rfl (hna m u)
  | comp un => cases un <;> simp [Ty.kind]
  | _ => simp [Ty.kind]
 rw [show asRow 3 f i = none by unfold asRow; rw [if_neg h3, if_neg (by rintro ⟨-, h⟩; exact absurd h (by decide))]] at he
 exact ⟨he, rfl⟩
theorem Outs.other {t : Ty} (h : Outs w n f og pt ob) (hR : Refs n f) (hi : i < n) (ht : FOk t) (r : RT f i t) (hc : isC t = false) (ha : ∀ m u, t ≠ .arr m u) : und f i < n ∧
  (∀ W, (Instr.typeAssert (objAt pt ob (und f i)) 77 177 true).run Tryz.prog W = .ok (.tuple #[.nilIface, .bool false]) W) ∧
  (∀ W, (Instr.typeAssert (objAt pt ob (und f i)) 77 167 true).run Tryz.prog W = .ok (.tuple #[.pointer none, .bool false]) W) := by
 obtain ⟨r', hi', ot, bt⟩ := ht.und r hi hR
 have hb : isC t.behind = false ∧ ∀ m u, t.behind ≠ .arr m u := by
  cases ht with
  | leaf ht => cases ht with
   | named h hn => obtain ⟨sz, sg, nm, rfl, hs⟩ := h; exact ⟨rfl, fun _ _ e => by cases e⟩
   | cst h => obtain ⟨sz, sg, nm, rfl, hs⟩ := h; exact ⟨rfl, fun _ _ e => by cases e⟩
   | int h => obtain ⟨sz, sg, nm, rfl, hs⟩ := h; exact ⟨rfl, fun _ _ e => by cases e⟩
   | enm h => obtain ⟨nm, sg, m, vn, vv, rfl, hs⟩ := h; exact ⟨rfl, fun _ _ e => by cases e⟩
   | ptr h => exact ⟨rfl, fun _ _ e => by cases e⟩
   | arr h h1 h2 => exact absurd rfl (ha _ _)
  | @comp un => rw [isC_comp] at hc; cases hc
 obtain ⟨z, hz, -, ha1⟩ := h.compA hi' r' bt
 rw [hb.1] at ha1
 obtain rfl := hz hb.1
 refine ⟨hi', ha1, fun W => ?_⟩
 have e1 := h.kindOf hi' r'.kind
 cases hq : t.behind with
 | int => rw [hq] at e1; simp only [objAt, e1.1 rfl]; exact taNoArr _ (by decide) W _
 | ptr => rw [hq] at e1; simp only [objAt, e1.2.1 rfl]; exact taNoArr _ (by decide) W _
 | enm => rw [hq] at e1; simp only [objAt, e1.2.2.2.2.2 rfl]; exact taNoArr _ (by decide) W _
 | arr m u => exact absurd hq (hb.2 m u)
 | comp un => rw [hq, isC_comp] at hb; cases hb.1
 | named nm u => exact absurd (by rw [hq]; rfl) (behind_kind t).1
 | cst u => exact absurd (by rw [hq]; rfl) (behind_kind t).2
end
noncomputable def pkfBody : Code := (Tryz.f62.body.bind firstLoop).getD .skip
abbrev KRel (T : Two) (W : World) (g L z6 z7 ra rb plen : Nat) (R : FS × Out) (gk : Nat) (s14 s15 s73 : Value) (wr : World) : Prop :=
 ∃ (q : List Nat) (k : Nat) (s : FS) (ia ib : Nat) (oa ob : Bool), q.length + k = plen ∧ q.length ≤ gk ∧ s73 = .int .i64 (k : Int) ∧ s14 = .bool oa ∧ s15 = .bool ob ∧ Hid (Acc W g L q (k + 1)) ∧ Hid (KSt T W z6 z7 ra rb ia ib (60000000 + k * 100000) s wr) ∧ Hid (R = fieldGo q s)
abbrev KInv (T : Two) (W : World) (g L cap z6 z7 ra rb plen : Nat) (R : FS × Out) (c0 c2 c3 c4 c5 c11 c12 c13 c38 c39 c40 c41 c42 c43 c44 c45 c46 c47 c48 c49 c50 c51 c52 c53 c54 c55 c56 c57 c58 c59 c60 c61 c62 c63 c64 c65 c66 c67 c68 c69 c70 c325 c326 : Value) : Nat → Act → World → Prop := fun gk a wr =>
 ∃ u8 u14 u15 u16 u17 u18 u19 u20 u21 u22 u23 u24 u25 u26 u27 u28 u29 u30 u31 u32 u33 u34 u35 u36 u37 u73 u74 u75 u76 u77 u78 u79 u80 u81 u82 u83 u84 u85 u86 u87 u88 u89 u90 u91 u92 u93 u94 u95 u96 u97 u98 u99 u100 u101 u102 u103 u104 u105 u106 u107 u108 u109 u110 u111 u112 u113 u114 u115 u116 u117 u118 u119 u120 u121 u122 u123 u124 u125 u126 u127 u128 u129 u130 u131 u132 u133 u134 u135 u136 u137 u138 u139 u140 u141 u142 u143 u144 u145 u146 u147 u148 u149 u150 u151 u152 u153 u154 u155 u156 u157 u158 u159 u160 u161 u162 u163 u164 u165 u166 u167 u168 u169 u170 u171 u172 u173 u174 u175 u176 u177 u178 u179 u180 u181 u182 u183 u184 u185 u186 u187 u188 u189 u190 u191 u192 u193 u194 u195 u196 u197 u198 u199 u200 u201 u202 u203 u204 u205 u206 u207 u208 u209 u210 u211 u212 u213 u214 u215 u216 u217 u218 u219 u220 u221 u222 u223 u224 u225 u226 u227 u228 u229 u230 u231 u232 u233 u234 u235 u236 u237 u238 u239 u240 u241 u242 u243 u244 u245 u246 u247 u248 u249 u250 u251 u252 u253 u254 u255 u256 u257 u258 u259 u260 u261 u262 u263 u264 u265 u266 u267 u268 u269 u270 u271 u272 u273 u274 u275 u276 u277 u278 u279 u280 u281 u282 u283 u284 u285 u286 u287 u288 u289 u290 u291 u292 u293 u294 u295 u296 u297 u298 u299 u300 u301 u302 u303 u304 u305 u306 u307 u308 u309 u310 u311 u312 u313 u314 u315 u316 u317 u318 u319 u320 u321 u322 u323 u324 : Value, KRel T W g L z6 z7 ra rb plen R gk u14 u15 u73 wr ∧ a = ⟨#[c0, .slice (some ⟨g, 0, none⟩) L cap, c2, c3, c4, c5, .pointer (some ⟨z6, 0, none⟩), .pointer (some ⟨z7, 0, none⟩), u8, .pointer (some ⟨ra, 0, none⟩), .pointer (some ⟨rb, 0, none⟩), c11, c12, c13, u14, u15, u16, u17, u18, u19, u20, u21, u22, u23, u24, u25, u26, u27, u28, u29, u30, u31, u32, u33, u34, u35, u36, u37, c38, c39, c40, c41, c42, c43, c44, c45, c46, c47, c48, c49, c50, c51, c52, c53, c54, c55, c56, c57, c58, c59, c60, c61, c62, c63, c64, c65, c66, c67, c68, c69, c70, .slice (some ⟨g, 1, none⟩) (L - 1) (cap - 1), .int .i64 ((L - 1 : Nat) : Int), u73, u74, u75, u76, u77, u78, u79, u80, u81, u82, u83, u84, u85, u86, u87, u88, u89, u90, u91, u92, u93, u94, u95, u96, u97, u98, u99, u100, u101, u102, u103, u104, u105, u106, u107, u108, u109, u110, u111, u112, u113, u114, u115, u116, u117, u118, u119, u120, u121, u122, u123, u124, u125, u126, u127, u128, u129, u130, u131, u132, u133, u134, u135, u136, u137, u138, u139, u140, u141, u142, u143, u144, u145, u146, u147, u148, u149, u150, u151, u152, u153, u154, u155, u156, u157, u158, u159, u160, u161, u162, u163, u164, u165, u166, u167, u168, u169, u170, u171, u172, u173, u174, u175, u176, u177, u178, u179, u180, u181, u182, u183, u184, u185, u186, u187, u188, u189, u190, u191, u192, u193, u194, u195, u196, u197, u198, u199, u200, u201, u202, u203, u204, u205, u206, u207, u208, u209, u210, u211, u212, u213, u214, u215, u216, u217, u218, u219, u220, u221, u222, u223, u224, u225, u226, u227, u228, u229, u230, u231, u232, u233, u234, u235, u236, u237, u238, u239, u240, u241, u242, u243, u244, u245, u246, u247, u248, u249, u250, u251, u252, u253, u254, u255, u256, u257, u258, u259, u260, u261, u262, u263, u264, u265, u266, u267, u268, u269, u270, u271, u272, u273, u274, u275, u276, u277, u278, u279, u280, u281, u282, u283, u284, u285, u286, u287, u288, u289, u290, u291, u292, u293, u294, u295, u296, u297, u298, u299, u300, u301, u302, u303, u304, u305, u306, u307, u308, u309, u310, u311, u312, u313, u314, u315, u316, u317, u318, u319, u320, u321, u322, u323, u324, c325, c326], []⟩
structure ReloE (w : World) (cb : Nat) (v acc : Value) (k : Int) (id : Value) (a : Addr) : Prop where
 blk : Blk w cb #[v, acc, .int .u32 k, id] 112
 err : w.cell? ⟨4, 0, none⟩ = some (.iface 228 (.pointer (some a)))
theorem cell_five (w : World) {p : Addr} {b : Nat} (hp : ¬ p.block = b) (a0 a1 a2 a3 a4 : Value) : (((((w.setCell ⟨b, 0, none⟩ a0).setCell ⟨b, 1, none⟩ a1).setCell ⟨b, 2, none⟩ a2).setCell ⟨b, 3, none⟩ a3).setCell ⟨b, 4, none⟩ a4).cell? p = w.cell? p := by
 have h : ∀ i : Nat, (⟨b, i, none⟩ : Addr) ≠ p := fun i e => hp (congrArg Addr.block e).symm
 rw [World.cell?_setCell_other _ _ _ _ (h 4), World.cell?_setCell_other _ _ _ _ (h 3), World.cell?_setCell_other _ _ _ _ (h 2), World.cell?_setCell_other _ _ _ _ (h 1), World.cell?_setCell_other _ _ _ _ (h 0)]
section
variable {w : World} {cb : Nat} {xt : TypeId} {xv y id bo rs : Value} {aa : Option Addr} {an ac : Nat} {a : Addr}
end
end Go.Proofs.YtfilbgmbmlmdbaaGreatDoor
