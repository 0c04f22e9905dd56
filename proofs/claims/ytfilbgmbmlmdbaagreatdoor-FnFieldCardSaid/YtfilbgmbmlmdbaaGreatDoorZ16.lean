/- A region that draws its order, with reads whose cells are written by operations that wait for them: the reads may be taken first. Nothing is claimed here. -/
import Derived.Test.YtfilbgmbmlmdbaaGreatDoorZ06
import Derived.Test.YtfilbgmbmlmdbaaGreatDoorZ01
import Derived.Test.YtfilbgmbmlmdbaaGreatDoorZ15
import Derived.Deep.DeepCutAuto
import Derived.Deep.CutBlock
import Derived.Test.YtfilbgmbmlmdbaaGreatDoorZ09
import Derived.Test.YtfilbgmbmlmdbaaGreatDoorZ13
import Derived.Test.YtfilbgmbmlmdbaaGreatDoorZ14
import Derived.Test.YtfilbgmbmlmdbaaGreatDoorZ11
set_option linter.unusedSimpArgs false
set_option linter.unusedVariables false
set_option maxRecDepth 1000000
set_option maxHeartbeats 16000000
namespace Go.Proofs.YtfilbgmbmlmdbaaGreatDoor
open Go.RowKit
section
variable {P : Program} {ops : Array Oper} {Q : Exit → Act → World → Prop} {md : Region.Mode} {wr : List Nat} {rd : Nat → List Nat} {Sf : Nat → World → Prop}
def reachB (md : Region.Mode) (ops : Array Oper) : Nat → Nat → Nat → Bool
 | 0, _, _ => false
 | f + 1, k, i => match ops[k]? with
  | none => false
  | some ok => ok.after.any fun e => Region.binds md e && (e.on == i || reachB md ops f e.on i)
theorem reach_listed {listed : Array Bool} {i : Nat} (inv : HeadInv md ops ops.size listed) : ∀ (f k : Nat), listed.getD k false = true → reachB md ops f k i = true → listed.getD i false = true := by
 intro f
 induction f with
 | zero => intro k _ h; cases h
 | succ f ih =>
  intro k hk h
  unfold reachB at h
  cases ho : ops[k]? with
  | none => rw [ho] at h; cases h
  | some ok =>
   rw [ho] at h
   simp only [Array.any_eq_true'] at h
   obtain ⟨e, he, h⟩ := h
   simp only [Bool.and_eq_true, Bool.or_eq_true, beq_iff_eq] at h
   have hl := inv.closed k ok ho hk e he h.1
   rcases h.2 with h2 | h2
   ·rw [← h2]; exact hl
   ·exact ih _ hl h2
def doneB (md : Region.Mode) (ops : Array Oper) (wr : List Nat) (listed : Array Bool) (rs : List Nat) : Bool := rs.all fun i => wr.any fun k => listed.getD k false && reachB md ops ops.size k i
def Cond (md : Region.Mode) (ops : Array Oper) (wr : List Nat) (rd : Nat → List Nat) (Sf : Nat → World → Prop) (listed : Array Bool) (w : World) : Prop := ∀ c, doneB md ops wr listed (rd c) = true ∨ Sf c w
theorem doneB_set {listed : Array Bool} {i : Nat} {rs : List Nat} (hi : i ∉ wr) : doneB md ops wr (listed.setIfInBounds i true) rs = doneB md ops wr listed rs := by
 unfold doneB
 congr 1
 funext r
 refine Bool.eq_iff_iff.2 ?_
 simp only [List.any_eq_true, Bool.and_eq_true]
 constructor
 ·rintro ⟨k, hk, h1, h2⟩
  have hne : i ≠ k := fun e => hi (by rw [e]; exact hk)
  exact ⟨k, hk, by rw [getD_set_ne false hne] at h1; exact h1, h2⟩
 ·rintro ⟨k, hk, h1, h2⟩
  have hne : i ≠ k := fun e => hi (by rw [e]; exact hk)
  exact ⟨k, hk, by rw [getD_set_ne false hne]; exact h1, h2⟩
theorem Cond.set {listed : Array Bool} {i : Nat} {w : World} (h : Cond md ops wr rd Sf listed w) (hi : i ∉ wr) : Cond md ops wr rd Sf (listed.setIfInBounds i true) w := fun c => by rw [doneB_set hi]; exact h c
theorem Cond.at_ {listed : Array Bool} {i c : Nat} {w : World} (h : Cond md ops wr rd Sf listed w) (inv : HeadInv md ops ops.size listed) (hic : i ∈ rd c) (hl : listed.getD i false = false) : Sf c w := by
 rcases h c with h | h
 ·unfold doneB at h
  obtain ⟨k, _, hk⟩ := List.any_eq_true.1 (List.all_eq_true.1 h i hic)
  rw [Bool.and_eq_true] at hk
  rw [reach_listed inv _ _ hk.1 hk.2] at hl
  cases hl
 ·exact h
def AnyR (P : Program) (md : Region.Mode) (ops : Array Oper) (Q : Exit → Act → World → Prop) (wr : List Nat) (rd : Nat → List Nat) (Sf : Nat → World → Prop) : Nat → Array Bool → Act → World → Prop
 | 0, listed, a, w => Region.ready md ops listed = [] ∧ Q .normal a w
 | f + 1, listed, a, w => (Region.ready md ops listed = [] → Q .normal a w) ∧
  ∀ i ∈ Region.ready md ops listed, wpOp P ops Q i (fun a' w' => Cond md ops wr rd Sf (listed.setIfInBounds i true) w' ∧ AnyR P md ops Q wr rd Sf f (listed.setIfInBounds i true) a' w') a w
theorem AnyR.any : ∀ (f : Nat) (listed : Array Bool) (a : Act) (w : World), AnyR P md ops Q wr rd Sf f listed a w → wpAny P md ops Q f listed a w
 | 0, _, _, _, h => h
 | f + 1, _, _, _, h => ⟨h.1, fun i hi => wpOp_mono (fun a' w' h' => AnyR.any f _ a' w' h'.2) (h.2 i hi)⟩
theorem AnyR.start {id : Nat} {a : Act} {w : World} (hm : P.follows .mixedOrders = true) (hS : ∀ c, Sf c w.drew) (h : Cond .any ops wr rd Sf (Array.replicate ops.size false) w.drew → AnyR P .any ops Q wr rd Sf ops.size (Array.replicate ops.size false) a w.drew) : (Code.region id ops true).wp P Q a w :=
 wp_region_any hm (AnyR.any _ _ _ _ (h fun c => .inr (hS c)))
theorem AnyR.first {i c : Nat} {oi : Oper} {v : Value} (hi : ops[i]? = some oi) (hsel : ∀ (j : Nat) (o : Oper) cs b, ops[j]? = some o → o.op ≠ .select cs b) (hQ : ∀ c a w, Q (.panic c) (a.put oi.dst v) w → Q (.panic c) a w) (hic : i ∈ rd c) (hiw : i ∉ wr) :
  ∀ (f : Nat) (listed : Array Bool) (a : Act) (w : World), HeadInv md ops ops.size listed →
   (∀ j oj, ops[j]? = some oj → j ≠ i → listed.getD j true = false → (∀ e ∈ oj.after, Region.binds md e = true → e.on ≠ i) → oi.apart ops oj = true) →
   i ∈ Region.ready md ops listed → YieldsIf P ops (Sf c) oi v a → Cond md ops wr rd Sf listed w → AnyR P md ops Q wr rd Sf f (listed.setIfInBounds i true) (a.put oi.dst v) w → AnyR P md ops Q wr rd Sf (f + 1) listed a w := by
 intro f
 induction f with
 | zero =>
  intro listed a w inv _ hr hy hS H
  have h0 := getD_both (mem_ready.1 hr).1
  refine ⟨fun h => (by rw [h] at hr; cases hr), fun j hj => ?_⟩
  by_cases hji : j = i
  ·subst hji; exact hy.wpOp hi (hS.at_ inv hic h0) ⟨hS.set hiw, H⟩
  ·have h := ready_mono hj hji
   rw [H.1] at h
   cases h
 | succ f ih =>
  intro listed a w inv hfree hr hy hS H
  have h00 := getD_both (mem_ready.1 hr).1
  refine ⟨fun h => (by rw [h] at hr; cases hr), fun j hj => ?_⟩
  by_cases hji : j = i
  ·subst hji; exact hy.wpOp hi (hS.at_ inv hic h00) ⟨hS.set hiw, H⟩
  ·obtain ⟨hun, oj, hoj, hall⟩ := mem_ready.1 hj
   have h0 := (mem_ready.1 hr).1
   have hnot : ∀ e ∈ oj.after, Region.binds md e = true → e.on ≠ i := fun e he hb heq => by
    have h1 := hall e he hb
    rw [heq, getD_both h0] at h1
    cases h1
   have hjlt : j < ops.size := (Array.getElem?_eq_some_iff.1 hoj).1
   have h2 := wpOp_putIf hoj (hfree j oj hoj hji hun hnot) (fun cs b => hsel i oi cs b hi) (fun cs b => hsel j oj cs b hoj) hQ hy (H.2 j (ready_mono hj hji))
   refine wpOp_mono (fun a' w' h3 => ?_) h2
   have hS' : Cond md ops wr rd Sf (listed.setIfInBounds j true) w' := fun c' => by
    have := h3.2.1 c'
    rw [Array.setIfInBounds_comm _ _ (Ne.symm hji), doneB_set hiw] at this
    exact this
   refine ⟨hS', ih (listed.setIfInBounds j true) a' w' (inv.set hj hjlt) (fun k ok hk hki hunk hno => hfree k ok hk hki ?_ hno) (ready_mono hr (Ne.symm hji)) h3.1 hS' (by rw [Array.setIfInBounds_comm _ _ hji]; exact h3.2.2)⟩
   by_cases hjk : j = k
   ·subst hjk; exact hun
   ·rw [getD_set_ne true hjk] at hunk; exact hunk
theorem AnyR.take {i : Nat} (c : Nat) {oi : Oper} {v : Value} {f : Nat} {listed : Array Bool} {a : Act} {w : World} (hi : ops[i]? = some oi) (hs : Region.noSelect ops = true) (hf : Region.free md ops listed i = true) (hr : (Region.ready md ops listed).contains i = true)
  (hc : (headB md ops ops.size listed && (rd c).contains i && !wr.contains i) = true) (hQ : ∀ c a w, Q (.panic c) (a.put oi.dst v) w → Q (.panic c) a w) (hS : Cond md ops wr rd Sf listed w) (hy : Region.wanted oi (yielded ops a.tmps) = true) (hv : ∀ w, Sf c w → (execOp a.eval oi).run P w = .ok (.value v) w)
  (h : Cond md ops wr rd Sf (listed.setIfInBounds i true) w → AnyR P md ops Q wr rd Sf f (listed.setIfInBounds i true) (a.put oi.dst v) w) : AnyR P md ops Q wr rd Sf (f + 1) listed a w := by
 simp only [Bool.and_eq_true] at hc
 obtain ⟨⟨h1, h2⟩, h3⟩ := hc
 have hiw : i ∉ wr := by simpa using h3
 exact AnyR.first (c := c) hi (Region.noSelect_spec hs) hQ (by simpa using h2) hiw f listed a w (headB_inv h1) (Region.free_spec hi hf) (by simpa using hr) (.inl ⟨hy, hv⟩) hS (h (hS.set hiw))
theorem AnyR.tk {i : Nat} (c : Nat) {oi : Oper} {v : Value} {f : Nat} {listed : Array Bool} {a : Act} {w : World} (hi : ops[i]? = some oi) (h4 : (Region.noSelect ops && Region.free md ops listed i && (Region.ready md ops listed).contains i && (headB md ops ops.size listed && (rd c).contains i && !wr.contains i)) = true)
  (hQ : ∀ c a w, Q (.panic c) (a.put oi.dst v) w → Q (.panic c) a w) (hS : Cond md ops wr rd Sf listed w) (hy : Region.wanted oi (yielded ops a.tmps) = true) (hv : ∀ w, Sf c w → (execOp a.eval oi).run P w = .ok (.value v) w)
  (h : Cond md ops wr rd Sf (listed.setIfInBounds i true) w → AnyR P md ops Q wr rd Sf f (listed.setIfInBounds i true) (a.put oi.dst v) w) : AnyR P md ops Q wr rd Sf (f + 1) listed a w := by
 obtain ⟨h3, h4⟩ := Bool.and_eq_true_iff.1 h4
 obtain ⟨h2, h3⟩ := Bool.and_eq_true_iff.1 h3
 obtain ⟨h1, h2⟩ := Bool.and_eq_true_iff.1 h2
 exact AnyR.take c hi h1 h2 h3 h4 hQ hS hy hv h
theorem AnyR.one {i : Nat} {o : Oper} {f : Nat} {listed : Array Bool} {a : Act} {w : World} (hr : Region.ready md ops listed = [i]) (ho : ops[i]? = some o)
  (h : ∀ K : Act → World → Prop, Shut (∀ a' w', Cond md ops wr rd Sf (listed.setIfInBounds i true) w' → (Cond md ops wr rd Sf (listed.setIfInBounds i true) w' → AnyR P md ops Q wr rd Sf f (listed.setIfInBounds i true) a' w') → K a' w') → if Region.wanted o (yielded ops a.tmps) = true then Oper.wp P o a w K Q else K (a.put o.dst undef) w) :
  AnyR P md ops Q wr rd Sf (f + 1) listed a w := by
 refine ⟨fun h0 => (by rw [hr] at h0; cases h0), fun j hj => ?_⟩
 rw [hr] at hj
 obtain rfl : j = i := by simpa using hj
 exact wpOp_step ho fun K hK => h K fun a' w' hS hW => hK a' w' ⟨hS, hW hS⟩
theorem AnyR.two {i i' : Nat} {o o' : Oper} {f : Nat} {listed : Array Bool} {a : Act} {w : World} (hr : Region.ready md ops listed = [i, i']) (ho : ops[i]? = some o) (ho' : ops[i']? = some o')
  (h : ∀ K : Act → World → Prop, Shut (∀ a' w', Cond md ops wr rd Sf (listed.setIfInBounds i true) w' → (Cond md ops wr rd Sf (listed.setIfInBounds i true) w' → AnyR P md ops Q wr rd Sf f (listed.setIfInBounds i true) a' w') → K a' w') → if Region.wanted o (yielded ops a.tmps) = true then Oper.wp P o a w K Q else K (a.put o.dst undef) w)
  (h' : ∀ K : Act → World → Prop, Shut (∀ a' w', Cond md ops wr rd Sf (listed.setIfInBounds i' true) w' → (Cond md ops wr rd Sf (listed.setIfInBounds i' true) w' → AnyR P md ops Q wr rd Sf f (listed.setIfInBounds i' true) a' w') → K a' w') → if Region.wanted o' (yielded ops a.tmps) = true then Oper.wp P o' a w K Q else K (a.put o'.dst undef) w) :
  AnyR P md ops Q wr rd Sf (f + 1) listed a w := by
 refine ⟨fun h0 => (by rw [hr] at h0; cases h0), fun j hj => ?_⟩
 rw [hr] at hj
 have hjj : j = i ∨ j = i' := by simpa using hj
 rcases hjj with rfl | rfl
 ·exact wpOp_step ho fun K hK => h K fun a' w' hS hW => hK a' w' ⟨hS, hW hS⟩
 ·exact wpOp_step ho' fun K hK => h' K fun a' w' hS hW => hK a' w' ⟨hS, hW hS⟩
theorem AnyR.end_ {f : Nat} {listed : Array Bool} {a : Act} {w : World} (hd : Region.ready md ops listed = []) (h : Q .normal a w) : AnyR P md ops Q wr rd Sf f listed a w := by
 cases f with
 | zero => exact ⟨hd, h⟩
 | succ f => exact ⟨fun _ => h, fun k hk => (by rw [hd] at hk; cases hk)⟩
theorem wp_meet0 {P : Program} {c : Code} {Q : Exit → Act → World → Prop} {a : Act} {w : World} (Φ : World → Prop) (A : Act) (h1 : c.wp P (AtEnd fun a' w' => Φ w' ∧ a' = A) a w) (h2 : ∀ w', Φ w' → Q .normal A w') : c.wp P Q a w :=
 wp_mono h1 fun e a' w' h => by
  cases e with
  | normal => obtain ⟨hx, rfl⟩ := h; exact h2 w' hx
  | _ => exact h.elim
end
end Go.Proofs.YtfilbgmbmlmdbaaGreatDoor
namespace Go.Proofs.YtfilbgmbmlmdbaaGreatDoor
open Go.RowKit Go.MapKept
def Out.code : Out → Int
 | .found => 0
 | .poison => 1
 | .wrong => 2
abbrev fld0 : Array Value := #[.pointer none, .int .i64 0, .int .i64 0, .int .i64 0]
structure FSt (W : World) (z6 z7 ra rb pa pb B : Nat) (s : FS) (w : World) : Prop where
 b6 : Blk w z6 fld0 31
 b7 : Blk w z7 fld0 31
 ba : Blk w ra #[.pointer (some ⟨pa, 0, none⟩), .int .i64 (s.ao : Nat), .int .i64 (s.ab : Nat), .int .i64 (s.af : Nat)] 31
 bb : Blk w rb #[.pointer (some ⟨pb, 0, none⟩), .int .i64 (s.bo : Nat), .int .i64 (s.bb : Nat), .int .i64 (s.bf : Nat)] 31
 old : Below W.heap.size W w
 ta : Rep W Nowhere pa s.a
 tb : Rep W Nowhere pb s.b
 oka : FOk s.a
 okb : FOk s.b
 bnd : s.ao ≤ B ∧ s.bo ≤ B
theorem FSt.below {W w w' : World} {z6 z7 ra rb pa pb B B' : Nat} {s : FS} (h : FSt W z6 z7 ra rb pa pb B s w) (hb : Below w.heap.size w w') (hB : B ≤ B') : FSt W z6 z7 ra rb pa pb B' s w' :=
 ⟨h.b6.old hb, h.b7.old hb, h.ba.old hb, h.bb.old hb, h.old.trans (hb.mono h.old.size), h.ta, h.tb, h.oka, h.okb, Nat.le_trans h.bnd.1 hB, Nat.le_trans h.bnd.2 hB⟩
theorem FSt.drew {W w : World} {z6 z7 ra rb pa pb B : Nat} {s : FS} (h : FSt W z6 z7 ra rb pa pb B s w) : FSt W z6 z7 ra rb pa pb B s w.drew :=
 ⟨h.b6.drew, h.b7.drew, h.ba.drew, h.bb.drew, h.old.drew, h.ta, h.tb, h.oka, h.okb, h.bnd⟩
def FRes (W : World) (r : FS × Out) (e : Ending) (w' : World) : Prop := ∃ pa pb, e = .returned (.tuple #[fldV pa r.1.ao r.1.ab r.1.af, fldV pb r.1.bo r.1.bb r.1.bf, .int .i64 r.2.code]) ∧ Rep W Nowhere pa r.1.a ∧ Rep W Nowhere pb r.1.b ∧ FOk r.1.a ∧ FOk r.1.b ∧ Below W.heap.size W w'
def Acc (w : World) (g L : Nat) (p : List Nat) (o : Nat) : Prop := p.length + o = L ∧ ∀ i x, p[i]? = some x → w.cell? ⟨g, o + i, none⟩ = some (.int .i64 (x : Nat)) ∧ x ≤ 255
theorem Acc.tail {w : World} {g L o i : Nat} {p : List Nat} (h : Acc w g L (i :: p) o) : Acc w g L p (o + 1) :=
 ⟨by have := h.1; simp only [List.length_cons] at this; omega, fun j x hj => by have := h.2 (j + 1) x hj; rwa [show o + (j + 1) = o + 1 + j by omega] at this⟩
theorem Rep.fresh {W w : World} {b : Nat} {t : Ty} (r : Rep W Nowhere b t) (h : Below W.heap.size W w) : Rep w (fun g => W.heap.size ≤ g) b t := r.keep (fun k hk _ => h.block k hk) (fun _ hk hx => absurd hk (Nat.not_lt.2 hx))
theorem Rep.back {W w : World} {b : Nat} {t : Ty} (r : Rep w (fun g => W.heap.size ≤ g) b t) (h : Below W.heap.size W w) : Rep W Nowhere b t := r.keep (fun k _ hk => (h.block k (Nat.lt_of_not_le hk)).symm) (fun _ _ x => x.elim)
theorem below4 {B : Nat} {w w' : World} {b : Nat} (h : Below B w w') (hb : B ≤ b) (a0 a1 a2 a3 : Value) : Below B w ((((w'.setCell ⟨b, 0, none⟩ a0).setCell ⟨b, 1, none⟩ a1).setCell ⟨b, 2, none⟩ a2).setCell ⟨b, 3, none⟩ a3) :=
 (((h.setCell (p := ⟨b, 0, none⟩) hb _).setCell (p := ⟨b, 1, none⟩) hb _).setCell (p := ⟨b, 2, none⟩) hb _).setCell (p := ⟨b, 3, none⟩) hb _
theorem Rep.three {w : World} {D : Nat → Prop} {b : Nat} {t : Ty} (r : Rep w D b t) : (∃ un nm sz n pn py pa pb, t = .comp un nm sz n pn py pa pb) ∨
  (∃ m u c, t = .arr m u ∧ w.cell? ⟨b, 0, none⟩ = some (.int .i64 3) ∧ w.cell? ⟨b, 2, none⟩ = some (.int .i64 m) ∧ w.cell? ⟨b, 4, none⟩ = some (.pointer (some ⟨c, 0, none⟩)) ∧ Rep w D c u) ∨
  (∃ K : Int, isC t = false ∧ w.cell? ⟨b, 0, none⟩ = some (.int .i64 K) ∧ (K == 3) = false ∧ (∀ m u, t ≠ .arr m u) ∧ ∀ s i l, s.a = t → stepF s i l = (s, some .wrong)) := by
 have hk := r.kindCell
 cases t with
 | comp un nm sz n pn py pa pb => exact .inl ⟨un, nm, sz, n, pn, py, pa, pb, rfl⟩
 | arr m u => obtain ⟨c, h0, h2, h4, rc⟩ := r.elem; exact .inr (.inl ⟨m, u, c, rfl, h0, h2, h4, rc⟩)
 | _ => exact .inr (.inr ⟨_, rfl, hk, rfl, fun m u e => by (cases e), fun s i l e => by unfold stepF; rw [e]⟩)
theorem fieldGo_stop {s s' : FS} {o : Out} {i : Nat} {rest : List Nat} (h : stepF s i rest.isEmpty = (s', some o)) : fieldGo (i :: rest) s = (s', o) := by
 unfold fieldGo; rw [h]
theorem fieldGo_on {s s' : FS} {i : Nat} {rest : List Nat} (h : stepF s i rest.isEmpty = (s', none)) : fieldGo (i :: rest) s = fieldGo rest s' := by
 conv => lhs; unfold fieldGo
 rw [h]
theorem isC_comp {un : Bool} {nm : ByteArray} {sz n : Nat} {pn : Nat → ByteArray} {py : Nat → Ty} {pa pb : Nat → Nat} : isC (.comp un nm sz n pn py pa pb) = true := by cases un <;> rfl
theorem part_bnd {x k ao : Nat} (hx : x ≤ 400000) (h : ao ≤ 60000000 + k * 100000) (hk : k ≤ 5) : IntKind.i64.wrap ((x : Int) / 8) = (x : Int) / 8 ∧ IntKind.i64.wrap ((ao : Int) + (x : Int) / 8) = ((ao + x / 8 : Nat) : Int) ∧ ao + x / 8 ≤ 60000000 + (k + 1) * 100000 := by
 have e : ((ao + x / 8 : Nat) : Int) = (ao : Int) + (x : Int) / 8 := by omega
 refine ⟨IntWalk.i64_in _ (by omega), ?_, by omega⟩
 rw [e]
 exact IntWalk.i64_in _ (by omega)
theorem load_le (y : Ty) (a : Nat) : load y a ≤ a / 8 := Nat.div_mul_le_self _ _
theorem arr_bnd {i k ao : Nat} {u : Ty} (hu : IntT u) (hi : i ≤ 255) (h : ao ≤ 60000000 + k * 100000) (hk : k ≤ 5) : IntKind.i64.wrap ((i : Int) * (u.bytes : Int)) = ((i * u.bytes : Nat) : Int) ∧ IntKind.i64.wrap ((ao : Int) + (i : Int) * (u.bytes : Int)) = ((ao + i * u.bytes : Nat) : Int) ∧ ao + i * u.bytes ≤ 60000000 + (k + 1) * 100000 := by
 have h1 := hu.flat.2.1
 have h2 : i * u.bytes ≤ 255 * 8 := Nat.mul_le_mul hi h1
 refine ⟨?_, ?_, by omega⟩
 ·rw [← Int.natCast_mul]; exact IntWalk.i64_in _ (by omega)
 ·rw [← Int.natCast_mul, ← Int.natCast_add]; exact IntWalk.i64_in _ (by omega)
structure Dst (W : World) (z6 z7 ra rb : Nat) : Prop where
 d67 : z6 ≠ z7
 d6a : z6 ≠ ra
 d6b : z6 ≠ rb
 d7a : z7 ≠ ra
 d7b : z7 ≠ rb
 dab : ra ≠ rb
 l6 : W.heap.size ≤ z6
 l7 : W.heap.size ≤ z7
 la : W.heap.size ≤ ra
 lb : W.heap.size ≤ rb
theorem Dst.far {W : World} {z6 z7 ra rb : Nat} (D : Dst W z6 z7 ra rb) : Hid (∀ (w : World) (i : Nat) (v : Value) (x : Nat), (w.setCell ⟨z6, i, none⟩ v).cell? ⟨ra, x, none⟩ = w.cell? ⟨ra, x, none⟩) ∧ Hid (∀ (w : World) (i : Nat) (v : Value) (x : Nat), (w.setCell ⟨z6, i, none⟩ v).cell? ⟨rb, x, none⟩ = w.cell? ⟨rb, x, none⟩) ∧ Hid (∀ (w : World) (i : Nat) (v : Value) (x : Nat), (w.setCell ⟨z7, i, none⟩ v).cell? ⟨ra, x, none⟩ = w.cell? ⟨ra, x, none⟩) ∧ Hid (∀ (w : World) (i : Nat) (v : Value) (x : Nat), (w.setCell ⟨z7, i, none⟩ v).cell? ⟨rb, x, none⟩ = w.cell? ⟨rb, x, none⟩) :=
 ⟨Lib.hid fun _ _ _ _ => World.cell?_setCell_far _ _ _ _ D.d6a, Lib.hid fun _ _ _ _ => World.cell?_setCell_far _ _ _ _ D.d6b, Lib.hid fun _ _ _ _ => World.cell?_setCell_far _ _ _ _ D.d7a, Lib.hid fun _ _ _ _ => World.cell?_setCell_far _ _ _ _ D.d7b⟩
theorem Blk.sets4 {w : World} {b : Nat} {c0 c1 c2 c3 a0 a1 a2 a3 : Value} {t : TypeId} (h : Blk w b #[c0, c1, c2, c3] t) : Blk ((((w.setCell ⟨b, 0, none⟩ a0).setCell ⟨b, 1, none⟩ a1).setCell ⟨b, 2, none⟩ a2).setCell ⟨b, 3, none⟩ a3) b #[a0, a1, a2, a3] t :=
 (((h.set 0 a0).set 1 a1).set 2 a2).set 3 a3
theorem Blk.far4 {w : World} {b b' : Nat} {c : Array Value} {a0 a1 a2 a3 : Value} {t : TypeId} (h : Blk w b c t) (hne : b ≠ b') : Blk ((((w.setCell ⟨b', 0, none⟩ a0).setCell ⟨b', 1, none⟩ a1).setCell ⟨b', 2, none⟩ a2).setCell ⟨b', 3, none⟩ a3) b c t :=
 (((h.other (p := ⟨b', 0, none⟩) hne _).other (p := ⟨b', 1, none⟩) hne _).other (p := ⟨b', 2, none⟩) hne _).other (p := ⟨b', 3, none⟩) hne _
structure FEnd (W : World) (z6 z7 pa ao ab af pb bo bbi bf : Nat) (w : World) : Prop where
 b6 : Blk w z6 #[.pointer (some ⟨pa, 0, none⟩), .int .i64 (ao : Nat), .int .i64 (ab : Nat), .int .i64 (af : Nat)] 31
 b7 : Blk w z7 #[.pointer (some ⟨pb, 0, none⟩), .int .i64 (bo : Nat), .int .i64 (bbi : Nat), .int .i64 (bf : Nat)] 31
 old : Below W.heap.size W w
section
variable {W w : World} {z6 z7 ra rb pa pb B : Nat} {s : FS}
theorem FSt.fend {p q a1 a2 a3 b1 b2 b3 : Nat} (st : FSt W z6 z7 ra rb pa pb B s w) (D : Dst W z6 z7 ra rb) :
  FEnd W z6 z7 p a1 a2 a3 q b1 b2 b3 (((((((((w.setCell ⟨z6, 0, none⟩ (.pointer (some ⟨p, 0, none⟩))).setCell ⟨z6, 1, none⟩ (.int .i64 (a1 : Nat))).setCell ⟨z6, 2, none⟩ (.int .i64 (a2 : Nat))).setCell ⟨z6, 3, none⟩ (.int .i64 (a3 : Nat))).setCell ⟨z7, 0, none⟩ (.pointer (some ⟨q, 0, none⟩))).setCell ⟨z7, 1, none⟩ (.int .i64 (b1 : Nat))).setCell ⟨z7, 2, none⟩ (.int .i64 (b2 : Nat))).setCell ⟨z7, 3, none⟩ (.int .i64 (b3 : Nat))).drew) :=
 ⟨(st.b6.sets4.far4 D.d67).drew, ((st.b7.far4 D.d67.symm).sets4).drew, (below4 (below4 st.old D.l6 _ _ _ _) D.l7 _ _ _ _).drew⟩
theorem FSt.offs {t u : Ty} {x y : Nat} {vx vy : Int} (st : FSt W z6 z7 ra rb pa pb B ⟨t, 0, 0, 0, u, 0, 0, 0⟩ w) (D : Dst W z6 z7 ra rb) {B' : Nat} (hx : vx = x) (hy : vy = y) (hbx : x ≤ B') (hby : y ≤ B') :
  FSt W z6 z7 ra rb pa pb B' ⟨t, x, 0, 0, u, y, 0, 0⟩ ((w.setCell ⟨ra, 1, none⟩ (.int .i64 vx)).setCell ⟨rb, 1, none⟩ (.int .i64 vy)) := by
 subst hx hy
 exact ⟨(st.b6.other (p := ⟨ra, 1, none⟩) D.d6a _).other (p := ⟨rb, 1, none⟩) D.d6b _, (st.b7.other (p := ⟨ra, 1, none⟩) D.d7a _).other (p := ⟨rb, 1, none⟩) D.d7b _, (st.ba.set 1 _).other (p := ⟨rb, 1, none⟩) D.dab _, (st.bb.other (p := ⟨ra, 1, none⟩) D.dab.symm _).set 1 _,
  (st.old.setCell (p := ⟨ra, 1, none⟩) D.la _).setCell (p := ⟨rb, 1, none⟩) D.lb _, st.ta, st.tb, st.oka, st.okb, hbx, hby⟩
theorem FSt.put {s' : FS} {pa' pb' B' : Nat} {v1 v2 v3 u1 u2 u3 : Int} (st : FSt W z6 z7 ra rb pa pb B s w) (D : Dst W z6 z7 ra rb) (h1 : v1 = (s'.ao : Nat)) (h2 : v2 = (s'.ab : Nat)) (h3 : v3 = (s'.af : Nat)) (k1 : u1 = (s'.bo : Nat)) (k2 : u2 = (s'.bb : Nat)) (k3 : u3 = (s'.bf : Nat))
  (ta : Rep W Nowhere pa' s'.a) (tb : Rep W Nowhere pb' s'.b) (oka : FOk s'.a) (okb : FOk s'.b) (hb : s'.ao ≤ B' ∧ s'.bo ≤ B') :
  FSt W z6 z7 ra rb pa' pb' B' s' ((((((((w.setCell ⟨ra, 0, none⟩ (.pointer (some ⟨pa', 0, none⟩))).setCell ⟨ra, 1, none⟩ (.int .i64 v1)).setCell ⟨ra, 2, none⟩ (.int .i64 v2)).setCell ⟨ra, 3, none⟩ (.int .i64 v3)).setCell ⟨rb, 0, none⟩ (.pointer (some ⟨pb', 0, none⟩))).setCell ⟨rb, 1, none⟩ (.int .i64 u1)).setCell ⟨rb, 2, none⟩ (.int .i64 u2)).setCell ⟨rb, 3, none⟩ (.int .i64 u3)) := by
 subst h1 h2 h3 k1 k2 k3
 exact ⟨(st.b6.far4 D.d6a).far4 D.d6b, (st.b7.far4 D.d7a).far4 D.d7b, st.ba.sets4.far4 D.dab, (st.bb.far4 D.dab.symm).sets4, below4 (below4 st.old D.la _ _ _ _) D.lb _ _ _ _, ta, tb, oka, okb, hb⟩
theorem FSt.putA {s' : FS} {pa' B' : Nat} {v1 v2 v3 : Int} (st : FSt W z6 z7 ra rb pa pb B s w) (D : Dst W z6 z7 ra rb) (h1 : v1 = (s'.ao : Nat)) (h2 : v2 = (s'.ab : Nat)) (h3 : v3 = (s'.af : Nat)) (k0 : s'.b = s.b) (k1 : s'.bo = s.bo) (k2 : s'.bb = s.bb) (k3 : s'.bf = s.bf)
  (ta : Rep W Nowhere pa' s'.a) (oka : FOk s'.a) (hb : s'.ao ≤ B' ∧ s'.bo ≤ B') :
  FSt W z6 z7 ra rb pa' pb B' s' ((((w.setCell ⟨ra, 0, none⟩ (.pointer (some ⟨pa', 0, none⟩))).setCell ⟨ra, 1, none⟩ (.int .i64 v1)).setCell ⟨ra, 2, none⟩ (.int .i64 v2)).setCell ⟨ra, 3, none⟩ (.int .i64 v3)) := by
 subst h1 h2 h3
 refine ⟨st.b6.far4 D.d6a, st.b7.far4 D.d7a, st.ba.sets4, ?_, below4 st.old D.la _ _ _ _, ta, k0 ▸ st.tb, oka, k0 ▸ st.okb, hb⟩
 rw [k1, k2, k3]
 exact st.bb.far4 D.dab.symm
end
structure FCtx (W : World) (g L cap z6 z7 ra rb plen : Nat) : Prop where
 hL : L ≤ 5
 hg : g < W.heap.size
 hcap : L ≤ cap
 hlen : plen + 1 = L
 hL2 : 2 ≤ L
 dst : Dst W z6 z7 ra rb
def firstLoop : Code → Option Code
 | .loop c => some c
 | .seq a b => match firstLoop a with
  | some c => some c
  | none => firstLoop b
 | .block _ c => firstLoop c
 | .scope c => firstLoop c
 | .cond _ a b => match firstLoop a with
  | some c => some c
  | none => firstLoop b
 | _ => none
noncomputable def fldBody : Code := (Tryz.f11.body.bind firstLoop).getD .skip
abbrev FRel (W : World) (g L z6 z7 ra rb plen : Nat) (R : FS × Out) (gk : Nat) (s11 s12 s47 : Value) (wr : World) : Prop :=
 ∃ (q : List Nat) (k : Nat) (s : FS) (pa pb : Nat) (oa ob : Bool), q.length + k = plen ∧ q.length ≤ gk ∧ s47 = .int .i64 (k : Int) ∧ s11 = .bool oa ∧ s12 = .bool ob ∧ Hid (Acc W g L q (k + 1)) ∧ Hid (FSt W z6 z7 ra rb pa pb (60000000 + k * 100000) s wr) ∧ Hid (R = fieldGo q s)
abbrev FInv (W : World) (g L cap z6 z7 ra rb plen : Nat) (R : FS × Out) (c0 c2 c3 c4 c5 c20 c21 c22 c23 c24 c25 c26 c27 c28 c29 c30 c31 c32 c33 c34 c35 c36 c37 c38 c39 c40 c41 c42 c43 c44 c284 c285 : Value) : Nat → Act → World → Prop := fun gk a wr =>
 ∃ u8 u11 u12 u13 u14 u15 u16 u17 u18 u19 u47 u48 u49 u50 u51 u52 u53 u54 u55 u56 u57 u58 u59 u60 u61 u62 u63 u64 u65 u66 u67 u68 u69 u70 u71 u72 u73 u74 u75 u76 u77 u78 u79 u80 u81 u82 u83 u84 u85 u86 u87 u88 u89 u90 u91 u92 u93 u94 u95 u96 u97 u98 u99 u100 u101 u102 u103 u104 u105 u106 u107 u108 u109 u110 u111 u112 u113 u114 u115 u116 u117 u118 u119 u120 u121 u122 u123 u124 u125 u126 u127 u128 u129 u130 u131 u132 u133 u134 u135 u136 u137 u138 u139 u140 u141 u142 u143 u144 u145 u146 u147 u148 u149 u150 u151 u152 u153 u154 u155 u156 u157 u158 u159 u160 u161 u162 u163 u164 u165 u166 u167 u168 u169 u170 u171 u172 u173 u174 u175 u176 u177 u178 u179 u180 u181 u182 u183 u184 u185 u186 u187 u188 u189 u190 u191 u192 u193 u194 u195 u196 u197 u198 u199 u200 u201 u202 u203 u204 u205 u206 u207 u208 u209 u210 u211 u212 u213 u214 u215 u216 u217 u218 u219 u220 u221 u222 u223 u224 u225 u226 u227 u228 u229 u230 u231 u232 u233 u234 u235 u236 u237 u238 u239 u240 u241 u242 u243 u244 u245 u246 u247 u248 u249 u250 u251 u252 u253 u254 u255 u256 u257 u258 u259 u260 u261 u262 u263 u264 u265 u266 u267 u268 u269 u270 u271 u272 u273 u274 u275 u276 u277 u278 u279 u280 u281 u282 u283 : Value, FRel W g L z6 z7 ra rb plen R gk u11 u12 u47 wr ∧ a = ⟨#[c0, .slice (some ⟨g, 0, none⟩) L cap, c2, c3, c4, c5, .pointer (some ⟨z6, 0, none⟩), .pointer (some ⟨z7, 0, none⟩), u8, .pointer (some ⟨ra, 0, none⟩), .pointer (some ⟨rb, 0, none⟩), u11, u12, u13, u14, u15, u16, u17, u18, u19, c20, c21, c22, c23, c24, c25, c26, c27, c28, c29, c30, c31, c32, c33, c34, c35, c36, c37, c38, c39, c40, c41, c42, c43, c44, .slice (some ⟨g, 1, none⟩) (L - 1) (cap - 1), .int .i64 ((L - 1 : Nat) : Int), u47, u48, u49, u50, u51, u52, u53, u54, u55, u56, u57, u58, u59, u60, u61, u62, u63, u64, u65, u66, u67, u68, u69, u70, u71, u72, u73, u74, u75, u76, u77, u78, u79, u80, u81, u82, u83, u84, u85, u86, u87, u88, u89, u90, u91, u92, u93, u94, u95, u96, u97, u98, u99, u100, u101, u102, u103, u104, u105, u106, u107, u108, u109, u110, u111, u112, u113, u114, u115, u116, u117, u118, u119, u120, u121, u122, u123, u124, u125, u126, u127, u128, u129, u130, u131, u132, u133, u134, u135, u136, u137, u138, u139, u140, u141, u142, u143, u144, u145, u146, u147, u148, u149, u150, u151, u152, u153, u154, u155, u156, u157, u158, u159, u160, u161, u162, u163, u164, u165, u166, u167, u168, u169, u170, u171, u172, u173, u174, u175, u176, u177, u178, u179, u180, u181, u182, u183, u184, u185, u186, u187, u188, u189, u190, u191, u192, u193, u194, u195, u196, u197, u198, u199, u200, u201, u202, u203, u204, u205, u206, u207, u208, u209, u210, u211, u212, u213, u214, u215, u216, u217, u218, u219, u220, u221, u222, u223, u224, u225, u226, u227, u228, u229, u230, u231, u232, u233, u234, u235, u236, u237, u238, u239, u240, u241, u242, u243, u244, u245, u246, u247, u248, u249, u250, u251, u252, u253, u254, u255, u256, u257, u258, u259, u260, u261, u262, u263, u264, u265, u266, u267, u268, u269, u270, u271, u272, u273, u274, u275, u276, u277, u278, u279, u280, u281, u282, u283, c284, c285], []⟩
end Go.Proofs.YtfilbgmbmlmdbaaGreatDoor
namespace Go.Proofs.YtfilbgmbmlmdbaaGreatDoor
open Go.RowKit
theorem As_Enum (w : World) (n og t : Nat) (f : Nat → RowD) (pt : Nat → TypeId) (ob : Nat → Nat) (h : Outs w n f og pt ob) (ht : t < n) (hpl : (f t).k = 8 ∨ (f t).k = 10 → ∃ j, j < n ∧ (f t).of = j + 1 ∧ (f j).k = 1) (hsm : (f t).k = 6) :
  Calls Tryz.prog 66 #[.iface (pt (t + 1)) (.pointer (some ⟨ob (t + 1), 0, none⟩))] w fun e w' => w' = w ∧ (match asRow 6 f t with
   | some r => r < n ∧ pt (r + 1) = 144 ∧ e = .returned (.tuple #[.pointer (some ⟨ob (r + 1), 0, none⟩), .bool true])
   | none => e = .returned (.tuple #[.pointer none, .bool false])) := by
 obtain ⟨cs, cs0, ty, lo, hob, hbk, hful⟩ := h.full t ht
 rcases hob.kinds with ⟨hk, hp⟩ | ⟨hk, hp⟩ | ⟨hk, hp⟩ | ⟨hk, hp⟩ | ⟨hk, hp⟩ | ⟨hk, hp⟩ | ⟨hk, hp⟩ | ⟨hk, hp⟩
 ·omega
 ·omega
 ·omega
 ·omega
 ·omega
 ·have hr : asRow 6 f t = some t := if_pos hk
  rw [hr]
  rw [hp]
  have fay := @ta_yes _ _ Tryz.underlying144
  go_enter Tryz.func66, Tryz.ntmps66
  go_wp2_with fail
  go_step3
  go_wp2_with fail
  go_loopg [0, 4] 1 (fun gk s0 s4 wr => s0 = .iface 144 (.pointer (some ⟨ob (t + 1), 0, none⟩)) ∧ s4 = .int .i64 0 ∧ wr = w)
  case atStart => exact ⟨rfl, rfl, rfl⟩
  case round =>
   obtain ⟨rfl, rfl, rfl⟩ := hrel
   go_wp2_with fail
   simp only [Exit.noGoto_ret]
   go_ret2
   exact ⟨rfl, ht, hp, rfl⟩
 ·omega
 ·omega
end Go.Proofs.YtfilbgmbmlmdbaaGreatDoor
namespace Go.Proofs.YtfilbgmbmlmdbaaGreatDoor
open Go.RowKit Go.MapKept
theorem lastIndex_short (w : World) (s : ByteArray) (hs : s.size = 2) : Calls Tryz.prog 88 #[.string s, .string ⟨#[95, 95, 95]⟩] w fun e w' => e = .returned (.int .i64 (-1)) ∧ w' = w := by
 have h2 : ((s.size : Nat) : Int) = 2 := by omega
 go_enter Tryz.func88, Tryz.ntmps88
 go_wp2_with fail
 go_ret
 exact ⟨rfl, rfl⟩
theorem essential_short (w : World) (s : ByteArray) (hs : s.size = 2) : Calls Tryz.prog 79 #[.string s] w fun e w' => e = .returned (.string s) ∧ w' = w := by
 have h0 : s.toList.isEmpty = false := by
  have hl : s.toList.length = 2 := by rw [ByteArray.toList_eq, Array.length_toList]; exact hs
  cases h : s.toList with
  | nil => rw [h] at hl; cases hl
  | cons _ _ => rfl
 go_enter Tryz.func79, Tryz.ntmps79
 go_wp2_with fail
 refine (lastIndex_short _ s hs).mono ?_
 rintro e w9 ⟨rfl, rfl⟩
 go_wp2_with fail
 go_ret
 exact ⟨rfl, rfl⟩
def EnumObj (w : World) (ob : Nat → Nat) (i n vg cap : Nat) (vn : Nat → ByteArray) (vv : Nat → Int) : Prop :=
 w.cell? ⟨ob (i + 1), 3, none⟩ = some (.slice (some ⟨vg, 0, none⟩) n cap) ∧ ob (i + 1) < w.heap.size ∧ vg < w.heap.size ∧ ∀ j, j < n → w.cell? ⟨vg, j * 2, none⟩ = some (.string (vn j)) ∧ w.cell? ⟨vg, j * 2 + 1, none⟩ = some (.int .u64 (IntKind.u64.wrap (vv j)))
theorem PRow.uniq {ys : List Value} {j : Nat} {nm nm' : ByteArray} {o o' : Value} {a b v a' b' v' : Int} (h : PRow ys j nm o a b v) (h' : PRow ys j nm' o' a' b' v') : nm = nm' ∧ v = v' := by
 obtain ⟨h0, _, _, _, h4⟩ := h
 obtain ⟨k0, _, _, _, k4⟩ := h'
 rw [h0] at k0; rw [h4] at k4
 cases k0; cases k4
 exact ⟨rfl, rfl⟩
theorem EnumObj.ck {w w' : World} {ob : Nat → Nat} {i n vg cap : Nat} {vn : Nat → ByteArray} {vv : Nat → Int} (h : EnumObj w ob i n vg cap vn vv) (hc : CellsKept w w') : EnumObj w' ob i n vg cap vn vv :=
 ⟨hc.cell h.1, Nat.lt_of_lt_of_le h.2.1 hc.size, Nat.lt_of_lt_of_le h.2.2.1 hc.size, fun j hj => ⟨hc.cell (h.2.2.2 j hj).1, hc.cell (h.2.2.2 j hj).2⟩⟩
section
variable {w : World} {n1 og1 t1 n2 og2 t2 : Nat} {f1 f2 : Nat → RowD} {pt1 pt2 : Nat → TypeId} {ob1 ob2 : Nat → Nat}
end
theorem lastIndex_one (w : World) (s : ByteArray) (hs : s.size = 1) : Calls Tryz.prog 88 #[.string s, .string ⟨#[95, 95, 95]⟩] w fun e w' => e = .returned (.int .i64 (-1)) ∧ w' = w := by
 have h2 : ((s.size : Nat) : Int) = 1 := by omega
 go_enter Tryz.func88, Tryz.ntmps88
 go_wp2_with fail
 go_ret
 exact ⟨rfl, rfl⟩
theorem essential_two (w : World) (s : ByteArray) (h0 : s.size ≠ 0) (h2 : s.size ≤ 2) : Calls Tryz.prog 79 #[.string s] w fun e w' => e = .returned (.string s) ∧ w' = w := by
 rcases (by omega : s.size = 1 ∨ s.size = 2) with hs | hs
 ·have hn := name_full2 h0
  go_enter Tryz.func79, Tryz.ntmps79
  go_wp2_with fail
  refine (lastIndex_one _ s hs).mono ?_
  rintro e w9 ⟨rfl, rfl⟩
  go_wp2_with fail
  go_ret
  exact ⟨rfl, rfl⟩
 ·exact essential_short w s hs
theorem names_any (w : World) (a b : ByteArray) (ha : a.size ≤ 2) (hb : b.size ≤ 2) : Calls Tryz.prog 70 #[.string a, .string b] w fun e w' => e = .returned (.bool (ess a b)) ∧ w' = w := by
 rcases ess_cases a b with ⟨h1, he⟩ | ⟨h1, h2, he⟩ | ⟨h1, h2, h3, he⟩ | ⟨h1, h2, h3, he⟩
 all_goals
  rw [he]
  clear he
 ·have x1 := name_nil h1
  clear h1
  go_enter Tryz.func70, Tryz.ntmps70
  go_wp2_with fail
  go_ret
  exact ⟨rfl, rfl⟩
 ·have x1 := name_full2 h1
  have x2 := name_nil h2
  clear h1 h2
  go_enter Tryz.func70, Tryz.ntmps70
  go_wp2_with fail
  go_ret
  exact ⟨rfl, rfl⟩
 ·subst h3
  have x1 := name_full2 h1
  have H1 := Lib.hid h1
  clear h1 h2
  go_enter Tryz.func70, Tryz.ntmps70
  go_wp2_with fail
  refine (essential_two _ a H1.out ha).mono ?_
  rintro e w9 ⟨rfl, rfl⟩
  go_wp2_with fail
  refine (essential_two _ a H1.out ha).mono ?_
  rintro e w8 ⟨rfl, rfl⟩
  go_wp2_with fail
  go_ret
  exact ⟨rfl, rfl⟩
 ·have x1 := name_full2 h1
  have x2 := name_full2 h2
  have x3 := name_ne h3
  have H1 := Lib.hid h1
  have H2 := Lib.hid h2
  clear h1 h2 h3
  go_enter Tryz.func70, Tryz.ntmps70
  go_wp2_with fail
  refine (essential_two _ a H1.out ha).mono ?_
  rintro e w9 ⟨rfl, rfl⟩
  go_wp2_with fail
  refine (essential_two _ b H2.out hb).mono ?_
  rintro e w8 ⟨rfl, rfl⟩
  go_wp2_with fail
  go_ret
  exact ⟨rfl, rfl⟩
section
variable (w : World) (b : Nat) (nm : ByteArray)
theorem members_Struct (v : Value) (h : w.cell? ⟨b, 2, none⟩ = some v) : Calls Tryz.prog 134 #[.pointer (some ⟨b, 0, none⟩)] w fun e w' => e = .returned v ∧ w' = w := by
 go_enter Tryz.func134, Tryz.ntmps134
 go_wp2
 go_ret
 exact ⟨rfl, rfl⟩
end
inductive OkM : Ty → Prop
 | int {t : Ty} (h : IntT t) : OkM t
 | ptr {t : Ty} (h : IntT t) : OkM (.ptr t)
 | arr {n : Nat} {t : Ty} (h : IntT t) (hn : n < 4294967296) : OkM (.arr n t)
 | enm {t : Ty} (h : EnmT t) : OkM t
 | named {nm : ByteArray} {t : Ty} (h : IntT t) : OkM (.named nm t)
 | cst {t : Ty} (h : IntT t) : OkM (.cst t)
 | comp {sz n : Nat} {nm : ByteArray} {pn : Nat → ByteArray} {py : Nat → Ty} {pa pb : Nat → Nat} (hnm : nm.size ≤ 2) (hn : n ≤ 1000) (hp : ∀ i, i < n → (pn i).size = 1) (hd : ∀ i j, i < j → j < n → pn i ≠ pn j) (hc : ∀ i, i < n → OkM (py i)) :
   OkM (.comp false nm sz n pn py pa pb)
theorem OkM.behind {t : Ty} (h : OkM t) : OkM t.behind := by
 cases h with
 | int h => have := h; obtain ⟨sz, sg, nm, rfl, _⟩ := h; exact .int this
 | ptr h => exact .ptr h
 | arr h hn => exact .arr h hn
 | enm h => have := h; obtain ⟨nm, sg, n, vn, vv, rfl, _⟩ := h; exact .enm this
 | named h => have := h; obtain ⟨sz, sg, nm, rfl, _⟩ := h; exact .int this
 | cst h => have := h; obtain ⟨sz, sg, nm, rfl, _⟩ := h; exact .int this
 | comp h1 h2 h3 h4 h5 => exact .comp h1 h2 h3 h4 h5
theorem PRow.uniq2 {ys : List Value} {j : Nat} {nm nm' : ByteArray} {o o' : Value} {a b v a' b' v' : Int} (h : PRow ys j nm o a b v) (h' : PRow ys j nm' o' a' b' v') : nm = nm' ∧ o = o' := by
 obtain ⟨h0, h1, _⟩ := h
 obtain ⟨k0, k1, _⟩ := h'
 rw [h0] at k0; rw [h1] at k1
 cases k0; cases k1
 exact ⟨rfl, rfl⟩
theorem RT.kind {f : Nat → RowD} {i : Nat} {t : Ty} (r : RT f i t) : (f i).k = (t.kind : Int) := by
 cases r with
 | @comp _ _ _ un _ _ _ _ _ _ hk => rw [hk]; cases un <;> rfl
 | int hk => exact hk
 | ptr hk => exact hk
 | arr hk => exact hk
 | named hk => exact hk
 | cst hk => exact hk
 | enm hk => exact hk
end Go.Proofs.YtfilbgmbmlmdbaaGreatDoor
