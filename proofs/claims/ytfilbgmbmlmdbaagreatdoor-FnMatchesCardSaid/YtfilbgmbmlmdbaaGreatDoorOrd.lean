/- A region that draws its order, whose last operation writes a cell that another one of it reads: all reads may be taken first, under a condition that the last operation need not keep. Nothing is claimed here. -/
import Derived.WalkKit
import Derived.Deep.RegionHeld3
import Derived.StillTail
namespace Go.Proofs.YtfilbgmbmlmdbaaGreatDoor
open Go.RowKit

section
variable {P : Program} {ops : Array Oper} {Q : Exit → Act → World → Prop} {md : Region.Mode} {S : World → Prop} {t : Nat}
/-- Whatever order is picked; S holds behind every operation but number t. -/
def AnyBut (P : Program) (md : Region.Mode) (ops : Array Oper) (Q : Exit → Act → World → Prop) (S : World → Prop) (t : Nat) : Nat → Array Bool → Act → World → Prop
  | 0, listed, a, w => Region.ready md ops listed = [] ∧ Q .normal a w
  | f + 1, listed, a, w => (Region.ready md ops listed = [] → Q .normal a w) ∧
    ∀ i ∈ Region.ready md ops listed, wpOp P ops Q i (fun a' w' => (i = t ∨ S w') ∧ AnyBut P md ops Q S t f (listed.setIfInBounds i true) a' w') a w
theorem AnyBut.any : ∀ (f : Nat) (listed : Array Bool) (a : Act) (w : World), AnyBut P md ops Q S t f listed a w → wpAny P md ops Q f listed a w
  | 0, _, _, _, h => h
  | f + 1, _, _, _, h => ⟨h.1, fun i hi => wpOp_mono (fun a' w' h' => AnyBut.any f _ a' w' h'.2) (h.2 i hi)⟩
theorem AnyBut.start {id : Nat} {a : Act} {w : World} (hm : P.follows .mixedOrders = true) (hS : S w.drew) (h : S w.drew → AnyBut P .any ops Q S t ops.size (Array.replicate ops.size false) a w.drew) : (Code.region id ops true).wp P Q a w :=
  wp_region_any hm (AnyBut.any _ _ _ _ (h hS))
/-- The operations from number n on have not come up, and what has come up had all that it waits for. -/
def headB (md : Region.Mode) (ops : Array Oper) (n : Nat) (listed : Array Bool) : Bool :=
  listed.size == ops.size && ((List.range ops.size).all fun j => !listed.getD j false || (match ops[j]? with | some oj => oj.after.all fun e => !Region.binds md e || listed.getD e.on false | none => true)) &&
    (List.range ops.size).all fun k => decide (k < n) || !listed.getD k true
theorem headB_inv {n : Nat} {listed : Array Bool} (h : headB md ops n listed = true) : HeadInv md ops n listed := by
  simp only [headB, Bool.and_eq_true] at h
  obtain ⟨⟨h1, h2⟩, h3⟩ := h
  refine ⟨by simpa using h1, fun j oj hj hl e he hb => ?_, fun k hk hks => ?_⟩
  · have hjs : j < ops.size := (Array.getElem?_eq_some_iff.1 hj).1
    have := List.all_eq_true.1 h2 j (List.mem_range.2 hjs)
    rw [hj, hl] at this
    simp only [Bool.not_true, Bool.false_or] at this
    have h4 := Array.all_eq_true_iff_forall_mem.1 this e he
    rw [hb] at h4
    simpa using h4
  · have := List.all_eq_true.1 h3 k (List.mem_range.2 hks)
    simp only [Bool.or_eq_true, decide_eq_true_eq] at this
    rcases this with h4 | h4
    · omega
    · simpa using h4
theorem AnyBut.first {i : Nat} {oi : Oper} {v : Value} (hi : ops[i]? = some oi) (hsel : ∀ (j : Nat) (o : Oper) cs b, ops[j]? = some o → o.op ≠ .select cs b) (hQ : ∀ c a w, Q (.panic c) (a.put oi.dst v) w → Q (.panic c) a w)
    (hsk : Region.sinkB md ops t = true) (hch : Region.chainB md ops t = true) (hts : t < ops.size) (hit : i < t) :
    ∀ (f : Nat) (listed : Array Bool) (a : Act) (w : World), HeadInv md ops t listed →
      (∀ j oj, ops[j]? = some oj → j ≠ i → listed.getD j true = false → (∀ e ∈ oj.after, Region.binds md e = true → e.on ≠ i) → oi.apart ops oj = true) →
      i ∈ Region.ready md ops listed → YieldsIf P ops S oi v a → S w → AnyBut P md ops Q S t f (listed.setIfInBounds i true) (a.put oi.dst v) w → AnyBut P md ops Q S t (f + 1) listed a w := by
  intro f
  induction f with
  | zero =>
    intro listed a w _ _ hr hy hS H
    refine ⟨fun h => (by rw [h] at hr; cases hr), fun j hj => ?_⟩
    by_cases hji : j = i
    · subst hji; exact hy.wpOp hi hS ⟨.inr hS, H⟩
    · have h := ready_mono hj hji
      rw [H.1] at h
      cases h
  | succ f ih =>
    intro listed a w inv hfree hr hy hS H
    refine ⟨fun h => (by rw [h] at hr; cases hr), fun j hj => ?_⟩
    by_cases hji : j = i
    · subst hji; exact hy.wpOp hi hS ⟨.inr hS, H⟩
    · obtain ⟨hun, oj, hoj, hall⟩ := mem_ready.1 hj
      have h0 := (mem_ready.1 hr).1
      have hnot : ∀ e ∈ oj.after, Region.binds md e = true → e.on ≠ i := fun e he hb heq => by
        have h1 := hall e he hb
        rw [heq, getD_both h0] at h1
        cases h1
      have hjlt : j < t := by
        rcases Nat.lt_or_ge j t with h | h
        · exact h
        · exact absurd hj (tail_waits hsk hch hts inv _ i rfl hit h0 j h)
      have hjt : j ≠ t := by omega
      have h2 := wpOp_putIf hoj (hfree j oj hoj hji hun hnot) (fun cs b => hsel i oi cs b hi) (fun cs b => hsel j oj cs b hoj) hQ hy (H.2 j (ready_mono hj hji))
      refine wpOp_mono (fun a' w' h3 => ?_) h2
      have hS' : S w' := h3.2.1.resolve_left hjt
      refine ⟨.inr hS', ih (listed.setIfInBounds j true) a' w' (inv.set hj hjlt) (fun k ok hk hki hunk hno => hfree k ok hk hki ?_ hno) (ready_mono hr (Ne.symm hji)) h3.1 hS' (by rw [Array.setIfInBounds_comm _ _ hji]; exact h3.2.2)⟩
      by_cases hjk : j = k
      · subst hjk; exact hun
      · rw [getD_set_ne true hjk] at hunk; exact hunk
/-- An operation that yields its value wherever S holds is taken first. -/
theorem AnyBut.take {i : Nat} {oi : Oper} {v : Value} {f : Nat} {listed : Array Bool} {a : Act} {w : World} (hi : ops[i]? = some oi) (hs : Region.noSelect ops = true) (hf : Region.free md ops listed i = true) (hr : (Region.ready md ops listed).contains i = true)
    (hwt : (Region.sinkB md ops t && Region.chainB md ops t && decide (t < ops.size) && decide (i < t) && headB md ops t listed) = true) (hQ : ∀ c a w, Q (.panic c) (a.put oi.dst v) w → Q (.panic c) a w) (hS : S w) (hy : Region.wanted oi (yielded ops a.tmps) = true) (hv : ∀ w, S w → (execOp a.eval oi).run P w = .ok (.value v) w)
    (h : AnyBut P md ops Q S t f (listed.setIfInBounds i true) (a.put oi.dst v) w) : AnyBut P md ops Q S t (f + 1) listed a w := by
  simp only [Bool.and_eq_true, decide_eq_true_eq] at hwt
  exact AnyBut.first hi (Region.noSelect_spec hs) hQ hwt.1.1.1.1 hwt.1.1.1.2 hwt.1.1.2 hwt.1.2 f listed a w (headB_inv hwt.2) (Region.free_spec hi hf) (by simpa using hr) (.inl ⟨hy, hv⟩) hS h
/-- The one operation that may come up is carried out. -/
theorem AnyBut.one {i : Nat} {o : Oper} {f : Nat} {listed : Array Bool} {a : Act} {w : World} (hr : Region.ready md ops listed = [i]) (ho : ops[i]? = some o)
    (h : ∀ K : Act → World → Prop, Shut (∀ a' w', S w' → (S w' → AnyBut P md ops Q S t f (listed.setIfInBounds i true) a' w') → K a' w') → if Region.wanted o (yielded ops a.tmps) = true then Oper.wp P o a w K Q else K (a.put o.dst undef) w) :
    AnyBut P md ops Q S t (f + 1) listed a w := by
  refine ⟨fun h0 => (by rw [hr] at h0; cases h0), fun j hj => ?_⟩
  rw [hr] at hj
  obtain rfl : j = i := by simpa using hj
  exact wpOp_step ho fun K hK => h K fun a' w' hS hW => hK a' w' ⟨.inr hS, hW hS⟩
/-- The last one is carried out. -/
theorem AnyBut.last {o : Oper} {f : Nat} {listed : Array Bool} {a : Act} {w : World} (hr : Region.ready md ops listed = [t]) (ho : ops[t]? = some o) (hd : Region.ready md ops (listed.setIfInBounds t true) = [])
    (h : ∀ K : Act → World → Prop, Shut (∀ a' w', Q .normal a' w' → K a' w') → if Region.wanted o (yielded ops a.tmps) = true then Oper.wp P o a w K Q else K (a.put o.dst undef) w) :
    AnyBut P md ops Q S t (f + 1) listed a w := by
  refine ⟨fun h0 => (by rw [hr] at h0; cases h0), fun j hj => ?_⟩
  rw [hr] at hj
  obtain rfl : j = t := by simpa using hj
  refine wpOp_step ho fun K hK => h K fun a' w' hQ' => hK a' w' ⟨.inl rfl, ?_⟩
  cases f with
  | zero => exact ⟨hd, hQ'⟩
  | succ f => exact ⟨fun _ => hQ', fun k hk => (by rw [hd] at hk; cases hk)⟩
end
#print axioms AnyBut.last
end Go.Proofs.YtfilbgmbmlmdbaaGreatDoor
