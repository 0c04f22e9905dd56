/- A region that draws its order, whose last operation writes a cell that another one of it reads: all reads may be taken first, under a condition that the last operation need not keep. Nothing is claimed here. -/
import Derived.WalkKit
import Derived.Deep.RegionHeld3
import Derived.StillTail
import Derived.Test.YtfilbgmbmlmdbaaGreatDoorZ05
set_option linter.unusedSimpArgs false
set_option linter.unusedVariables false
set_option maxRecDepth 1000000
set_option maxHeartbeats 16000000
namespace Go.Proofs.YtfilbgmbmlmdbaaGreatDoor
open Go.RowKit
section
variable {P : Program} {ops : Array Oper} {Q : Exit → Act → World → Prop} {md : Region.Mode} {S : World → Prop} {t : Nat}
def AnyBut (P : Program) (md : Region.Mode) (ops : Array Oper) (Q : Exit → Act → World → Prop) (S : World → Prop) (t : Nat) : Nat → Array Bool → Act → World → Prop
 | 0, listed, a, w => Region.ready md ops listed = [] ∧ Q .normal a w
 | f + 1, listed, a, w => (Region.ready md ops listed = [] → Q .normal a w) ∧
  ∀ i ∈ Region.ready md ops listed, wpOp P ops Q i (fun a' w' => (i = t ∨ S w') ∧ AnyBut P md ops Q S t f (listed.setIfInBounds i true) a' w') a w
theorem AnyBut.any : ∀ (f : Nat) (listed : Array Bool) (a : Act) (w : World), AnyBut P md ops Q S t f listed a w → wpAny P md ops Q f listed a w
 | 0, _, _, _, h => h
 | f + 1, _, _, _, h => ⟨h.1, fun i hi => wpOp_mono (fun a' w' h' => AnyBut.any f _ a' w' h'.2) (h.2 i hi)⟩
theorem AnyBut.start {id : Nat} {a : Act} {w : World} (hm : P.follows .mixedOrders = true) (hS : S w.drew) (h : S w.drew → AnyBut P .any ops Q S t ops.size (Array.replicate ops.size false) a w.drew) : (Code.region id ops true).wp P Q a w :=
 wp_region_any hm (AnyBut.any _ _ _ _ (h hS))
def headB (md : Region.Mode) (ops : Array Oper) (n : Nat) (listed : Array Bool) : Bool :=
 listed.size == ops.size && ((List.range ops.size).all fun j => !listed.getD j false || (match ops[j]? with | some oj => oj.after.all fun e => !Region.binds md e || listed.getD e.on false | none => true)) &&
  (List.range ops.size).all fun k => decide (k < n) || !listed.getD k true
theorem headB_inv {n : Nat} {listed : Array Bool} (h : headB md ops n listed = true) : HeadInv md ops n listed := by
 simp only [headB, Bool.and_eq_true] at h
 obtain ⟨⟨h1, h2⟩, h3⟩ := h
 refine ⟨by simpa using h1, fun j oj hj hl e he hb => ?_, fun k hk hks => ?_⟩
 ·have hjs : j < ops.size := (Array.getElem?_eq_some_iff.1 hj).1
  have := List.all_eq_true.1 h2 j (List.mem_range.2 hjs)
  rw [hj, hl] at this
  simp only [Bool.not_true, Bool.false_or] at this
  have h4 := Array.all_eq_true_iff_forall_mem.1 this e he
  rw [hb] at h4
  simpa using h4
 ·have := List.all_eq_true.1 h3 k (List.mem_range.2 hks)
  simp only [Bool.or_eq_true, decide_eq_true_eq] at this
  rcases this with h4 | h4
  ·omega
  ·simpa using h4
theorem AnyBut.first {i : Nat} {oi : Oper} {v : Value} (hi : ops[i]? = some oi) (hsel : ∀ (j : Nat) (o : Oper) cs b, ops[j]? = some o → o.op ≠ .select cs b) (hQ : ∀ c a w, Q (.panic c) (a.put oi.dst v) w → Q (.panic c) a w)
  (hsk : Region.sinkB md ops t = true) (hch : Region.chainB md ops t = true) (hts : t < ops.size) (hit : i < t) :
  ∀ (f : Nat) (listed : Array Bool) (a : Act) (w : World), HeadInv md ops t listed →
   (∀ j oj, ops[j]? = some oj → j ≠ i → listed.getD j true = false → (∀ e ∈ oj.after, Region.binds md e = true → e.on ≠ i) → oi.apart ops oj = true) →
   i ∈ Region.ready md ops listed → YieldsIf P ops S oi v a → S w → AnyBut P md ops Q S t f (listed.setIfInBounds i true) (a.put oi.dst v) w → AnyBut P md ops Q S t (f + 1) listed a w := by
 intro f
 induction f with
 | zero =>
  intro listed a w _ _ hr hy hS H
  refine ⟨fun h => (by rw [h] at hr; cases hr), fun j hj => ?_⟩
  by_cases hji : j = i
  ·subst hji; exact hy.wpOp hi hS ⟨.inr hS, H⟩
  ·have h := ready_mono hj hji
   rw [H.1] at h
   cases h
 | succ f ih =>
  intro listed a w inv hfree hr hy hS H
  refine ⟨fun h => (by rw [h] at hr; cases hr), fun j hj => ?_⟩
  by_cases hji : j = i
  ·subst hji; exact hy.wpOp hi hS ⟨.inr hS, H⟩
  ·obtain ⟨hun, oj, hoj, hall⟩ := mem_ready.1 hj
   have h0 := (mem_ready.1 hr).1
   have hnot : ∀ e ∈ oj.after, Region.binds md e = true → e.on ≠ i := fun e he hb heq => by
    have h1 := hall e he hb
    rw [heq, getD_both h0] at h1
    cases h1
   have hjlt : j < t := by
    rcases Nat.lt_or_ge j t with h | h
    ·exact h
    ·exact absurd hj (tail_waits hsk hch hts inv _ i rfl hit h0 j h)
   have hjt : j ≠ t := by omega
   have h2 := wpOp_putIf hoj (hfree j oj hoj hji hun hnot) (fun cs b => hsel i oi cs b hi) (fun cs b => hsel j oj cs b hoj) hQ hy (H.2 j (ready_mono hj hji))
   refine wpOp_mono (fun a' w' h3 => ?_) h2
   have hS' : S w' := h3.2.1.resolve_left hjt
   refine ⟨.inr hS', ih (listed.setIfInBounds j true) a' w' (inv.set hj hjlt) (fun k ok hk hki hunk hno => hfree k ok hk hki ?_ hno) (ready_mono hr (Ne.symm hji)) h3.1 hS' (by rw [Array.setIfInBounds_comm _ _ hji]; exact h3.2.2)⟩
   by_cases hjk : j = k
   ·subst hjk; exact hun
   ·rw [getD_set_ne true hjk] at hunk; exact hunk
theorem AnyBut.take {i : Nat} {oi : Oper} {v : Value} {f : Nat} {listed : Array Bool} {a : Act} {w : World} (hi : ops[i]? = some oi) (hs : Region.noSelect ops = true) (hf : Region.free md ops listed i = true) (hr : (Region.ready md ops listed).contains i = true)
  (hwt : (Region.sinkB md ops t && Region.chainB md ops t && decide (t < ops.size) && decide (i < t) && headB md ops t listed) = true) (hQ : ∀ c a w, Q (.panic c) (a.put oi.dst v) w → Q (.panic c) a w) (hS : S w) (hy : Region.wanted oi (yielded ops a.tmps) = true) (hv : ∀ w, S w → (execOp a.eval oi).run P w = .ok (.value v) w)
  (h : AnyBut P md ops Q S t f (listed.setIfInBounds i true) (a.put oi.dst v) w) : AnyBut P md ops Q S t (f + 1) listed a w := by
 simp only [Bool.and_eq_true, decide_eq_true_eq] at hwt
 exact AnyBut.first hi (Region.noSelect_spec hs) hQ hwt.1.1.1.1 hwt.1.1.1.2 hwt.1.1.2 hwt.1.2 f listed a w (headB_inv hwt.2) (Region.free_spec hi hf) (by simpa using hr) (.inl ⟨hy, hv⟩) hS h
theorem AnyBut.tk {i : Nat} {oi : Oper} {v : Value} {f : Nat} {listed : Array Bool} {a : Act} {w : World} (hi : ops[i]? = some oi) (h4 : (Region.noSelect ops && Region.free md ops listed i && (Region.ready md ops listed).contains i && (Region.sinkB md ops t && Region.chainB md ops t && decide (t < ops.size) && decide (i < t) && headB md ops t listed)) = true)
  (hQ : ∀ c a w, Q (.panic c) (a.put oi.dst v) w → Q (.panic c) a w) (hS : S w) (hy : Region.wanted oi (yielded ops a.tmps) = true) (hv : ∀ w, S w → (execOp a.eval oi).run P w = .ok (.value v) w)
  (h : AnyBut P md ops Q S t f (listed.setIfInBounds i true) (a.put oi.dst v) w) : AnyBut P md ops Q S t (f + 1) listed a w := by
 obtain ⟨h3, h4⟩ := Bool.and_eq_true_iff.1 h4
 obtain ⟨h2, h3⟩ := Bool.and_eq_true_iff.1 h3
 obtain ⟨h1, h2⟩ := Bool.and_eq_true_iff.1 h2
 exact AnyBut.take hi h1 h2 h3 h4 hQ hS hy hv h
theorem AnyBut.one {i : Nat} {o : Oper} {f : Nat} {listed : Array Bool} {a : Act} {w : World} (hr : Region.ready md ops listed = [i]) (ho : ops[i]? = some o)
  (h : ∀ K : Act → World → Prop, Shut (∀ a' w', S w' → (S w' → AnyBut P md ops Q S t f (listed.setIfInBounds i true) a' w') → K a' w') → if Region.wanted o (yielded ops a.tmps) = true then Oper.wp P o a w K Q else K (a.put o.dst undef) w) :
  AnyBut P md ops Q S t (f + 1) listed a w := by
 refine ⟨fun h0 => (by rw [hr] at h0; cases h0), fun j hj => ?_⟩
 rw [hr] at hj
 obtain rfl : j = i := by simpa using hj
 exact wpOp_step ho fun K hK => h K fun a' w' hS hW => hK a' w' ⟨.inr hS, hW hS⟩
theorem AnyBut.last {o : Oper} {f : Nat} {listed : Array Bool} {a : Act} {w : World} (hr : Region.ready md ops listed = [t]) (ho : ops[t]? = some o) (hd : Region.ready md ops (listed.setIfInBounds t true) = [])
  (h : ∀ K : Act → World → Prop, Shut (∀ a' w', Q .normal a' w' → K a' w') → if Region.wanted o (yielded ops a.tmps) = true then Oper.wp P o a w K Q else K (a.put o.dst undef) w) :
  AnyBut P md ops Q S t (f + 1) listed a w := by
 refine ⟨fun h0 => (by rw [hr] at h0; cases h0), fun j hj => ?_⟩
 rw [hr] at hj
 obtain rfl : j = t := by simpa using hj
 refine wpOp_step ho fun K hK => h K fun a' w' hQ' => hK a' w' ⟨.inl rfl, ?_⟩
 cases f with
 | zero => exact ⟨hd, hQ'⟩
 | succ f => exact ⟨fun _ => hQ', fun k hk => (by rw [hd] at hk; cases hk)⟩
end
structure AtSt (w : World) (n cap og oc : Nat) (pt : Nat → TypeId) (ob : Nat → Nat) : Prop where
 var : Blk w oc #[.slice (some ⟨og, 0, none⟩) n cap] 78
 has : ∀ i, i < n → w.cell? ⟨og, i, none⟩ = some (.iface (pt (i + 1)) (.pointer (some ⟨ob (i + 1), 0, none⟩)))
 lt : og < w.heap.size
theorem AtSt.keep {w w' : World} {n cap og oc : Nat} {pt : Nat → TypeId} {ob : Nat → Nat} (h : AtSt w n cap og oc pt ob) (h1 : w'.heap[og]? = w.heap[og]?) (h2 : w'.heap[oc]? = w.heap[oc]?) (hs : w.heap.size ≤ w'.heap.size) : AtSt w' n cap og oc pt ob :=
 ⟨h.var.of_eq h2, fun i hi => by rw [World.cell?_of_block (a := ⟨og, i, none⟩) h1]; exact h.has i hi, Nat.lt_of_lt_of_le h.lt hs⟩
theorem AtSt.old {w w' : World} {n cap og oc : Nat} {pt : Nat → TypeId} {ob : Nat → Nat} (h : AtSt w n cap og oc pt ob) (hb : Below w.heap.size w w') : AtSt w' n cap og oc pt ob := h.keep (hb.block _ h.lt) (hb.block _ h.var.lt) hb.size
theorem AtSt.drew {w w' : World} {n cap og oc : Nat} {pt : Nat → TypeId} {ob : Nat → Nat} (h : AtSt w n cap og oc pt ob) (hb : Below w.heap.size w w') : AtSt w' n cap og oc pt ob := h.old hb
theorem at_any (o n cap og oc : Nat) (pt : Nat → TypeId) (ob : Nat → Nat) (w : World) (h1 : 1 ≤ o) (hn : o ≤ n) (hn1 : n ≤ 1000000) (h : AtSt w n cap og oc pt ob) :
  Calls Tryz.prog 50 #[.int .i64 o, .pointer (some ⟨oc, 0, none⟩)] w fun e w' => e = .returned (.iface (pt o) (.pointer (some ⟨ob o, 0, none⟩))) ∧ w' = w := by
 obtain ⟨j, rfl⟩ : ∃ j, o = j + 1 := ⟨o - 1, by omega⟩
 have hz := h.has j (by omega)
 have hv := h.var.cell 0
 simp only [List.getElem?_toArray, List.getElem?_cons_zero] at hv
 have hne : (((j : Int) + 1) == 0) = false := by simp; omega
 have hj : (j : Int) < n := by omega
 have hjs : (j : Int) ≤ 1000000 := by omega
 go_enter Tryz.func50, Tryz.ntmps50
 go_wp2
 go_ret
 exact ⟨rfl, rfl⟩
theorem bmemParts : ElemOk Tryz.prog 185 189 5 64 := .of (z := .agg #[.string ⟨#[]⟩, .nilIface, .int .u32 0, .int .u32 0, .slice none 0 0]) Tryz.underlying185 (by kernel_rfl) (by rfl) (by decide)
def BRow (xs : List Value) (i : Nat) (nm : ByteArray) (t : Value) (a b : Int) : Prop :=
 xs[5 * i]? = some (.string nm) ∧ xs[5 * i + 1]? = some t ∧ xs[5 * i + 2]? = some (.int .u32 a) ∧ xs[5 * i + 3]? = some (.int .u32 b) ∧ xs[5 * i + 4]? = some (.slice none 0 0)
theorem BRow.left {xs ys : List Value} {i n : Nat} {nm : ByteArray} {t : Value} {a b : Int} (h : BRow xs i nm t a b) (hx : xs.length = n * 5) (hi : i < n) : BRow (xs ++ ys) i nm t a b := by
 obtain ⟨h1, h2, h3, h4, h5⟩ := h
 refine ⟨?_, ?_, ?_, ?_, ?_⟩ <;> (rw [List.getElem?_append_left (by omega)]; assumption)
theorem BRow.last {xs : List Value} {n : Nat} (nm : ByteArray) (t : Value) (a b : Int) (hx : xs.length = n * 5) : BRow (xs ++ [.string nm, t, .int .u32 a, .int .u32 b, .slice none 0 0]) n nm t a b := by
 refine ⟨?_, ?_, ?_, ?_, ?_⟩
 ·rw [List.getElem?_append_right (by omega), show 5 * n - xs.length = 0 by omega]; rfl
 ·rw [List.getElem?_append_right (by omega), show 5 * n + 1 - xs.length = 1 by omega]; rfl
 ·rw [List.getElem?_append_right (by omega), show 5 * n + 2 - xs.length = 2 by omega]; rfl
 ·rw [List.getElem?_append_right (by omega), show 5 * n + 3 - xs.length = 3 by omega]; rfl
 ·rw [List.getElem?_append_right (by omega), show 5 * n + 4 - xs.length = 4 by omega]; rfl
def BRows (ys xs : List Value) (pt : Nat → TypeId) (ob : Nat → Nat) (k : Nat) : Prop := ∀ j, j < k → ∃ (nm : ByteArray) (o : Nat) (a b v : Int), PRow ys j nm (.int .i64 o) a b v ∧ 1 ≤ o ∧ BRow xs j nm (.iface (pt o) (.pointer (some ⟨ob o, 0, none⟩))) a b
theorem BRows.push {ys xs : List Value} {pt : Nat → TypeId} {ob : Nat → Nat} {k : Nat} (h : BRows ys xs pt ob k) (hl : xs.length = k * 5) {nm : ByteArray} {o : Nat} {a b v : Int} (hr : PRow ys k nm (.int .i64 o) a b v) (ho : 1 ≤ o) :
  BRows ys (xs ++ [.string nm, .iface (pt o) (.pointer (some ⟨ob o, 0, none⟩)), .int .u32 a, .int .u32 b, .slice none 0 0]) pt ob (k + 1) := by
 intro j hj
 by_cases h1 : j < k
 ·obtain ⟨nm, o, a, b, v, h2, h3, h4⟩ := h j h1
  exact ⟨nm, o, a, b, v, h2, h3, h4.left hl h1⟩
 ·obtain rfl : j = k := by omega
  exact ⟨nm, o, a, b, v, hr, ho, BRow.last _ _ _ _ hl⟩
theorem members_any (W : World) (mv : Value) (q n cap og oc : Nat) (ys : List Value) (pt : Nat → TypeId) (ob : Nat → Nat) (hat0 : AtSt W n cap og oc pt ob) (hn : n ≤ 1000000) (ho : W.ownsRow 0 74 5 mv q ys) (hq : q ≤ 1000) 
  (hm : ∀ j, j < q → ∃ (nm : ByteArray) (o : Nat) (a b v : Int), PRow ys j nm (.int .i64 o) a b v ∧ (1 ≤ o ∧ o ≤ n) ∧ (0 ≤ a ∧ a < 4294967296) ∧ (0 ≤ b ∧ b < 4294967296)) :
  Calls Tryz.prog 75 #[mv, .func (.func 50) #[] #[.pointer (some ⟨oc, 0, none⟩)]] W fun e w' => ∃ v xs, e = .returned v ∧ w'.ownsRow W.heap.size 189 5 v q xs ∧ BRows ys xs pt ob q ∧ Below W.heap.size W w' := by
 obtain ⟨ma, mcap, rfl⟩ := own_slice ho
 go_enter Tryz.func75, Tryz.ntmps75
 go_wp2_with fail
 go_loopg [5, 10] q (fun gk s5 s10 wr => ∃ (v : Value) (k : Nat) (xs : List Value), v = s5 ∧ k ≤ q ∧ q - k ≤ gk ∧ s10 = .int .i64 k ∧ wr.ownsRow W.heap.size 189 5 v k xs ∧ BRows ys xs pt ob k ∧ Below W.heap.size W wr)
 case atStart => exact ⟨_, 0, [], rfl, Nat.zero_le _, Nat.le_refl _, rfl, World.ownsRow_nil _ _ _ _, fun j h => by omega, Below.refl _ _⟩
 case round =>
  obtain ⟨v, k, xs, rfl, hk, hgk, rfl, hown, hrows, hbr⟩ := hrel
  by_cases hlt : k < q
  ·obtain ⟨nm2, o2, a2, b2, v2, hrow, ⟨ho1, ho2⟩, ⟨ha21, ha22⟩, ⟨hb21, hb22⟩⟩ := hm k hlt
   obtain ⟨mg, mcap', hme, hmg⟩ := own_form ho (by omega)
   simp only [Value.slice.injEq] at hme
   obtain ⟨rfl, -, rfl⟩ := hme
   have hor : wr.ownsRow 0 74 5 (.slice (some ⟨mg, 0, none⟩) q mcap) q ys := ownsRow_of ho fun x _ hl => hbr.block x hl
   obtain ⟨q0, q1, q2, q3, q4⟩ := row_cells hor hrow
   have hmg2 : mg < wr.heap.size := Nat.lt_of_lt_of_le hmg hbr.size
   have hWr := hbr.size
   have hat := hat0.old hbr
   go_upto_region 5 with fail
   have hb8 : Below wr.heap.size wr (wr.alloc (.cells #[.string nm2, .int .i64 o2, .int .i64 a2, .int .i64 b2, .int .i64 v2] 74)).drew := ((Below.refl _ _).alloc (Nat.le_refl _) _).drew
   have hp8 : Blk (wr.alloc (.cells #[.string nm2, .int .i64 o2, .int .i64 a2, .int .i64 b2, .int .i64 v2] 74)).drew wr.heap.size _ _ := (Blk.new _ _ _).drew
   have hown8 : (wr.alloc (.cells #[.string nm2, .int .i64 o2, .int .i64 a2, .int .i64 b2, .int .i64 v2] 74)).drew.ownsRow W.heap.size 189 5 v k xs := ownsRow_of hown fun g _ hl => hb8.block g hl
   have ea : IntKind.u32.wrap a2 = a2 := IntWalk.u32_in _ (by omega)
   have eb : IntKind.u32.wrap b2 = b2 := IntWalk.u32_in _ (by omega)
   have hone : (#[.string nm2, (.iface (pt o2) (.pointer (some ⟨ob o2, 0, none⟩))), .int .u32 a2, .int .u32 b2, .slice none 0 0] : Array Value).toList.all Value.oneCell' = true := by simp [Value.oneCell']
   have hSof : ∀ w', Blk w' wr.heap.size #[.string nm2, .int .i64 o2, .int .i64 a2, .int .i64 b2, .int .i64 v2] 74 → w'.cell? ⟨wr.heap.size, 0, none⟩ = some (.string nm2) ∧ w'.cell? ⟨wr.heap.size, 1, none⟩ = some (.int .i64 o2) ∧ w'.cell? ⟨wr.heap.size, 2, none⟩ = some (.int .i64 a2) ∧ w'.cell? ⟨wr.heap.size, 3, none⟩ = some (.int .i64 b2) :=
    fun w' h1 => ⟨h1.cell 0, h1.cell 1, h1.cell 2, h1.cell 3⟩
   refine AnyBut.start (S := (fun w' => w'.cell? ⟨wr.heap.size, 0, none⟩ = some (.string nm2) ∧ w'.cell? ⟨wr.heap.size, 1, none⟩ = some (.int .i64 o2) ∧ w'.cell? ⟨wr.heap.size, 2, none⟩ = some (.int .i64 a2) ∧ w'.cell? ⟨wr.heap.size, 3, none⟩ = some (.int .i64 b2))) (t := 16) (by as_aux_lemma => kernel_rfl) (hSof _ hp8) (fun hHeld => ?_)
   refine AnyBut.tk (i := 0) (v := ?_) rfl (by as_aux_lemma => kernel_rfl) (fun _ _ _ h => h) hHeld (by rfl) ?_ ?_
   rotate_left
   focus (intro w hSw; (try dsimp only at hSw); go_simp <;> with_reducible rfl)
   try simp only [Act.put, zl4, zl5, zl6]
   refine AnyBut.tk (i := 1) (v := ?_) rfl (by as_aux_lemma => kernel_rfl) (fun _ _ _ h => h) hHeld (by rfl) ?_ ?_
   rotate_left
   focus (intro w hSw; (try dsimp only at hSw); go_simp <;> with_reducible rfl)
   try simp only [Act.put, zl4, zl5, zl6]
   refine AnyBut.tk (i := 2) (v := ?_) rfl (by as_aux_lemma => kernel_rfl) (fun _ _ _ h => h) hHeld (by rfl) ?_ ?_
   rotate_left
   focus (intro w hSw; (try dsimp only at hSw); go_simp <;> with_reducible rfl)
   try simp only [Act.put, zl4, zl5, zl6]
   refine AnyBut.tk (i := 3) (v := ?_) rfl (by as_aux_lemma => kernel_rfl) (fun _ _ _ h => h) hHeld (by rfl) ?_ ?_
   rotate_left
   focus (intro w hSw; (try dsimp only at hSw); go_simp <;> with_reducible rfl)
   try simp only [Act.put, zl4, zl5, zl6]
   refine AnyBut.tk (i := 4) (v := ?_) rfl (by as_aux_lemma => kernel_rfl) (fun _ _ _ h => h) hHeld (by rfl) ?_ ?_
   rotate_left
   focus (intro w hSw; (try dsimp only at hSw); go_simp <;> with_reducible rfl)
   try simp only [Act.put, zl4, zl5, zl6]
   refine AnyBut.tk (i := 5) (v := ?_) rfl (by as_aux_lemma => kernel_rfl) (fun _ _ _ h => h) hHeld (by rfl) ?_ ?_
   rotate_left
   focus (intro w hSw; (try dsimp only at hSw); go_simp <;> with_reducible rfl)
   try simp only [Act.put, zl4, zl5, zl6]
   refine AnyBut.tk (i := 7) (v := ?_) rfl (by as_aux_lemma => kernel_rfl) (fun _ _ _ h => h) hHeld (by rfl) ?_ ?_
   rotate_left
   focus (intro w hSw; (try dsimp only at hSw); go_simp <;> with_reducible rfl)
   try simp only [Act.put, zl4, zl5, zl6]
   refine AnyBut.tk (i := 8) (v := ?_) rfl (by as_aux_lemma => kernel_rfl) (fun _ _ _ h => h) hHeld (by rfl) ?_ ?_
   rotate_left
   focus (intro w hSw; (try dsimp only at hSw); go_simp <;> with_reducible rfl)
   try simp only [Act.put, zl4, zl5, zl6]
   refine AnyBut.tk (i := 9) (v := ?_) rfl (by as_aux_lemma => kernel_rfl) (fun _ _ _ h => h) hHeld (by rfl) ?_ ?_
   rotate_left
   focus (intro w hSw; (try dsimp only at hSw); go_simp <;> with_reducible rfl)
   try simp only [Act.put, zl4, zl5, zl6]
   refine AnyBut.tk (i := 10) (v := ?_) rfl (by as_aux_lemma => kernel_rfl) (fun _ _ _ h => h) hHeld (by rfl) ?_ ?_
   rotate_left
   focus (intro w hSw; (try dsimp only at hSw); go_simp <;> with_reducible rfl)
   try simp only [Act.put, zl4, zl5, zl6]
   refine AnyBut.tk (i := 11) (v := ?_) rfl (by as_aux_lemma => kernel_rfl) (fun _ _ _ h => h) hHeld (by rfl) ?_ ?_
   rotate_left
   focus (intro w hSw; (try dsimp only at hSw); go_simp <;> with_reducible rfl)
   try simp only [Act.put, zl4, zl5, zl6]
   refine AnyBut.tk (i := 12) (v := ?_) rfl (by as_aux_lemma => kernel_rfl) (fun _ _ _ h => h) hHeld (by rfl) ?_ ?_
   rotate_left
   focus (intro w hSw; (try dsimp only at hSw); go_simp <;> with_reducible rfl)
   try simp only [Act.put, zl4, zl5, zl6]
   refine AnyBut.one (i := 6) (by as_aux_lemma => kernel_rfl) rfl (fun K hK => ?_)
   go_simp
   go_at_call 50
   refine (at_any o2 n cap og oc pt ob _ ho1 ho2 hn (hat.drew hb8)).mono ?_
   rintro e w9 ⟨rfl, rfl⟩
   refine hK.out _ _ (hSof _ hp8) (fun hHeld => ?_)
   clear hK K
   try simp only [Act.put, zl4, zl5, zl6]
   refine AnyBut.tk (i := 13) (v := ?_) rfl (by as_aux_lemma => kernel_rfl) (fun _ _ _ h => h) hHeld (by rfl) ?_ ?_
   rotate_left
   focus (intro w hSw; (try dsimp only at hSw); go_simp <;> with_reducible rfl)
   try simp only [Act.put, zl4, zl5, zl6]
   refine AnyBut.one (i := 14) (by as_aux_lemma => kernel_rfl) rfl (fun K hK => ?_)
   go_simp
   refine hK.out _ _ (hSof _ (hp8.alloc _)) (fun hHeld => ?_)
   clear hK K
   try simp only [Act.put, zl4, zl5, zl6]
   refine AnyBut.one (i := 15) (by as_aux_lemma => kernel_rfl) rfl (fun K hK => ?_)
   refine step_app bmemParts (.tmp 14) (.tmp 28) rfl rfl W.heap.size v k xs rfl (hown8.alloc _) _ 1 1 #[.string nm2, (.iface (pt o2) (.pointer (some ⟨ob o2, 0, none⟩))), .int .u32 a2, .int .u32 b2, .slice none 0 0] rfl (Blk.newAt _ _ _ (by simp)).drew rfl hone (by decide) ?_ (by omega) (by unfold maxLen; omega) (by simp; omega)
   intro g1 cap1 w10 ha10
   refine hK.out _ _ (hSof _ ((hp8.alloc _).grown ha10.2.1 (fun x => by have := (hown.lt _ x.symm).2; omega))) (fun hHeld => ?_)
   clear hK K
   try simp only [Act.put, zl4, zl5, zl6]
   refine AnyBut.last (by as_aux_lemma => kernel_rfl) rfl (by as_aux_lemma => kernel_rfl) (fun K hK => ?_)
   go_simp
   refine hK.out _ _ ?_
   clear hK K
   try simp only [Act.put, zl4, zl5, zl6]
   go_wp2_with fail
   go_roundg (q - (k + 1))
   case measure => omega
   case rel => exact ⟨_, k + 1, _, rfl, hlt, Nat.le_refl _, by go_num, ha10.1, hrows.push hown.1 hrow ho1, ha10.below (hown8.alloc _) ((hbr.trans (hb8.mono hWr)).alloc (by have := hb8.size; omega) _) (by have := hb8.size; simp; omega) (Nat.le_refl _)⟩
  ·obtain rfl : k = q := by omega
   go_wp2_with fail
   go_ret
   exact ⟨v, xs, rfl, hown, hrows, hbr⟩
def ERows (ys xs : List Value) (k : Nat) : Prop := ∀ j, j < k → ∃ (nm : ByteArray) (o : Value) (a b v : Int), PRow ys j nm o a b v ∧ xs[2 * j]? = some (.string nm) ∧ xs[2 * j + 1]? = some (.int .u64 (IntKind.u64.wrap v))
inductive FullC (w : World) (lo : Nat) (pt : Nat → TypeId) (ob : Nat → Nat) (nm : ByteArray) (sz en fl : Int) (of ix q : Nat) (ys : List Value) : Int → Array Value → Prop
 | int : FullC w lo pt ob nm sz en fl of ix q ys 1 #[.string nm, .int .u32 sz, .int .u8 en]
 | ptr : FullC w lo pt ob nm sz en fl of ix q ys 2 #[.iface (pt of) (.pointer (some ⟨ob of, 0, none⟩))]
 | arr : FullC w lo pt ob nm sz en fl of ix q ys 3 #[.iface (pt ix) (.pointer (some ⟨ob ix, 0, none⟩)), .iface (pt of) (.pointer (some ⟨ob of, 0, none⟩)), .int .u32 sz]
 | str {k : Int} {v : Value} {xs : List Value} (hk : k = 4 ∨ k = 5) (ho : w.ownsRow lo 189 5 v q xs) (hr : BRows ys xs pt ob q) : FullC w lo pt ob nm sz en fl of ix q ys k #[.string nm, .int .u32 sz, v, .slice none 0 0]
 | enm {v : Value} {xs : List Value} (ho : w.ownsRow lo 131 2 v q xs) (hr : ERows ys xs q) : FullC w lo pt ob nm sz en fl of ix q ys 6 #[.string nm, .int .u32 sz, .bool (fl == 1), v]
 | tdf : FullC w lo pt ob nm sz en fl of ix q ys 8 #[.string nm, .iface (pt of) (.pointer (some ⟨ob of, 0, none⟩)), .slice none 0 0]
 | cst : FullC w lo pt ob nm sz en fl of ix q ys 10 #[.iface (pt of) (.pointer (some ⟨ob of, 0, none⟩))]
theorem FullC.of_eq {w w' : World} {lo : Nat} {pt : Nat → TypeId} {ob : Nat → Nat} {nm : ByteArray} {sz en fl : Int} {of ix q : Nat} {ys : List Value} {k : Int} {cs : Array Value} (h : FullC w lo pt ob nm sz en fl of ix q ys k cs)
  (hw : ∀ g, g < w.heap.size → lo ≤ g → w'.heap[g]? = w.heap[g]?) : FullC w' lo pt ob nm sz en fl of ix q ys k cs := by
 cases h with
 | int => exact .int
 | ptr => exact .ptr
 | arr => exact .arr
 | str hk ho hr => exact .str hk (ownsRow_of ho fun g hg hl => hw g hl (ho.lt g hg).1) hr
 | enm ho hr => exact .enm (ownsRow_of ho fun g hg hl => hw g hl (ho.lt g hg).1) hr
 | tdf => exact .tdf
 | cst => exact .cst
def FillPost (w : World) (b lo : Nat) (ty : TypeId) (pt : Nat → TypeId) (ob : Nat → Nat) (nm : ByteArray) (sz en fl : Int) (of ix q : Nat) (ys : List Value) (k : Int) (w' : World) : Prop :=
 ∃ cs, w.grownBy w' (some b) ∧ Blk w' b cs ty ∧ FullC w' lo pt ob nm sz en fl of ix q ys k cs
theorem grown_set2 {w : World} {o : Obj} {b i : Nat} {u : Value} : w.grownBy ((w.setCell ⟨b, i, none⟩ u).alloc o) (some b) :=
 ⟨rfl, rfl, rfl, by simp, fun k hk hne => by rw [Below.heap_alloc _ o k (by simpa using hk)]; exact Below.heap_setCell _ _ _ _ (fun e => hne (by rw [e]))⟩
theorem ta_no {T e : TypeId} (hu : Tryz.prog.underlying T = some (.pointer e)) (hz : ∀ W : World, (zeroValue T).run Tryz.prog W = .ok (.pointer none) W) (u : TypeId) (h : u ≠ T) (W : World) (v : Value) :
  (Instr.typeAssert (.iface u v) 77 T true).run Tryz.prog W = .ok (.tuple #[.pointer none, .bool false]) W := by
 simp [Instr.typeAssert, run_underlying hu, h, hz, Result.andThen]
theorem ta_yes {T e : TypeId} (hu : Tryz.prog.underlying T = some (.pointer e)) (W : World) (v : Value) :
  (Instr.typeAssert (.iface T v) 77 T true).run Tryz.prog W = .ok (.tuple #[v, .bool true]) W := by
 simp [Instr.typeAssert, run_underlying hu, Result.andThen]
theorem taNoPointer (u : TypeId) (h : u ≠ 164) (W : World) (v : Value) : (Instr.typeAssert (.iface u v) 77 164 true).run Tryz.prog W = .ok (.tuple #[.pointer none, .bool false]) W := ta_no Tryz.underlying164 (fun W => by kernel_rfl) u h W v
theorem taNoArray (u : TypeId) (h : u ≠ 167) (W : World) (v : Value) : (Instr.typeAssert (.iface u v) 77 167 true).run Tryz.prog W = .ok (.tuple #[.pointer none, .bool false]) W := ta_no Tryz.underlying167 (fun W => by kernel_rfl) u h W v
theorem taNoStruct (u : TypeId) (h : u ≠ 162) (W : World) (v : Value) : (Instr.typeAssert (.iface u v) 77 162 true).run Tryz.prog W = .ok (.tuple #[.pointer none, .bool false]) W := ta_no Tryz.underlying162 (fun W => by kernel_rfl) u h W v
theorem taNoUnion (u : TypeId) (h : u ≠ 163) (W : World) (v : Value) : (Instr.typeAssert (.iface u v) 77 163 true).run Tryz.prog W = .ok (.tuple #[.pointer none, .bool false]) W := ta_no Tryz.underlying163 (fun W => by kernel_rfl) u h W v
theorem taNoEnum (u : TypeId) (h : u ≠ 144) (W : World) (v : Value) : (Instr.typeAssert (.iface u v) 77 144 true).run Tryz.prog W = .ok (.tuple #[.pointer none, .bool false]) W := ta_no Tryz.underlying144 (fun W => by kernel_rfl) u h W v
theorem taNoTypedef (u : TypeId) (h : u ≠ 196) (W : World) (v : Value) : (Instr.typeAssert (.iface u v) 77 196 true).run Tryz.prog W = .ok (.tuple #[.pointer none, .bool false]) W := ta_no Tryz.underlying196 (fun W => by kernel_rfl) u h W v
theorem taNoVolatile (u : TypeId) (h : u ≠ 199) (W : World) (v : Value) : (Instr.typeAssert (.iface u v) 77 199 true).run Tryz.prog W = .ok (.tuple #[.pointer none, .bool false]) W := ta_no Tryz.underlying199 (fun W => by kernel_rfl) u h W v
theorem taNoConst (u : TypeId) (h : u ≠ 202) (W : World) (v : Value) : (Instr.typeAssert (.iface u v) 77 202 true).run Tryz.prog W = .ok (.tuple #[.pointer none, .bool false]) W := ta_no Tryz.underlying202 (fun W => by kernel_rfl) u h W v
theorem taNoRestrict (u : TypeId) (h : u ≠ 204) (W : World) (v : Value) : (Instr.typeAssert (.iface u v) 77 204 true).run Tryz.prog W = .ok (.tuple #[.pointer none, .bool false]) W := ta_no Tryz.underlying204 (fun W => by kernel_rfl) u h W v
theorem taNoFunc (u : TypeId) (h : u ≠ 206) (W : World) (v : Value) : (Instr.typeAssert (.iface u v) 77 206 true).run Tryz.prog W = .ok (.tuple #[.pointer none, .bool false]) W := ta_no Tryz.underlying206 (fun W => by kernel_rfl) u h W v
theorem taNoFuncProto (u : TypeId) (h : u ≠ 170) (W : World) (v : Value) : (Instr.typeAssert (.iface u v) 77 170 true).run Tryz.prog W = .ok (.tuple #[.pointer none, .bool false]) W := ta_no Tryz.underlying170 (fun W => by kernel_rfl) u h W v
theorem taNoVar (u : TypeId) (h : u ≠ 211) (W : World) (v : Value) : (Instr.typeAssert (.iface u v) 77 211 true).run Tryz.prog W = .ok (.tuple #[.pointer none, .bool false]) W := ta_no Tryz.underlying211 (fun W => by kernel_rfl) u h W v
theorem taNoDatasec (u : TypeId) (h : u ≠ 215) (W : World) (v : Value) : (Instr.typeAssert (.iface u v) 77 215 true).run Tryz.prog W = .ok (.tuple #[.pointer none, .bool false]) W := ta_no Tryz.underlying215 (fun W => by kernel_rfl) u h W v
theorem taNoTypeTag (u : TypeId) (h : u ≠ 221) (W : World) (v : Value) : (Instr.typeAssert (.iface u v) 77 221 true).run Tryz.prog W = .ok (.tuple #[.pointer none, .bool false]) W := ta_no Tryz.underlying221 (fun W => by kernel_rfl) u h W v
section
variable (w : World) (k : Int) (nm : ByteArray) (sz en fl : Int) (of ix : Nat) (mv : Value) (q n cap og oc b lo : Nat) (ys : List Value) (pt : Nat → TypeId) (ob : Nat → Nat) (ha : AtSt w n cap og oc pt ob) (hn : n ≤ 1000000) (hlo : lo ≤ w.heap.size)
 (hof : of ≤ n) (hix : ix ≤ n) (hbo : b ≠ og ∧ b ≠ oc)
theorem fill_int (hb : Blk w b #[.string nm, .int .u32 sz, .int .u8 en] 156) :
  Calls Tryz.prog 51 #[.iface 151 (.pointer (some ⟨b, 0, none⟩)), .agg #[.int .i64 1, .string nm, .int .i64 sz, .int .i64 en, .int .i64 fl, .int .i64 of, .int .i64 ix, mv], .func (.func 50) #[] #[.pointer (some ⟨oc, 0, none⟩)]] w
   fun e w' => e = .returned (.tuple #[]) ∧ FillPost w b lo 156 pt ob nm sz en fl of ix q ys 1 w' := by
 have nPointer := taNoPointer 151 (by decide)
 have nArray := taNoArray 151 (by decide)
 have nStruct := taNoStruct 151 (by decide)
 have nUnion := taNoUnion 151 (by decide)
 have nEnum := taNoEnum 151 (by decide)
 have nTypedef := taNoTypedef 151 (by decide)
 have nVolatile := taNoVolatile 151 (by decide)
 have nConst := taNoConst 151 (by decide)
 have nRestrict := taNoRestrict 151 (by decide)
 have nFunc := taNoFunc 151 (by decide)
 have nFuncProto := taNoFuncProto 151 (by decide)
 have nVar := taNoVar 151 (by decide)
 have nDatasec := taNoDatasec 151 (by decide)
 have nTypeTag := taNoTypeTag 151 (by decide)
 go_enter Tryz.func51, Tryz.ntmps51
 go_wp2
 go_end0
 exact ⟨rfl, _, ⟨rfl, rfl, rfl, by simp, fun k hk _ => Below.heap_alloc w _ k hk⟩, hb.alloc _, .int⟩
include ha hn hof in
theorem fill_ptr (hb : Blk w b #[.nilIface] 166) (h1 : 1 ≤ of) :
  Calls Tryz.prog 51 #[.iface 164 (.pointer (some ⟨b, 0, none⟩)), .agg #[.int .i64 2, .string nm, .int .i64 sz, .int .i64 en, .int .i64 fl, .int .i64 of, .int .i64 ix, mv], .func (.func 50) #[] #[.pointer (some ⟨oc, 0, none⟩)]] w
   fun e w' => e = .returned (.tuple #[]) ∧ FillPost w b lo 166 pt ob nm sz en fl of ix q ys 2 w' := by
 have y0 := @ta_yes _ _ Tryz.underlying164
 have hbl := hb.lt
 have hbf := (hb.alloc (.cells #[.int .i64 2, .string nm, .int .i64 sz, .int .i64 en, .int .i64 fl, .int .i64 of, .int .i64 ix, mv] 72)).free 0
 have hbc := (hb.alloc (.cells #[.int .i64 2, .string nm, .int .i64 sz, .int .i64 en, .int .i64 fl, .int .i64 of, .int .i64 ix, mv] 72)).cell 0
 simp only [List.getElem?_toArray, List.getElem?_cons_zero, List.getElem?_cons_succ] at hbc
 go_enter Tryz.func51, Tryz.ntmps51
 go_wp2_with fail
 refine (at_any of n cap og oc pt ob _ h1 hof hn (ha.old ((Below.refl _ _).alloc (Nat.le_refl _) _))).mono ?_
 rintro e w1 ⟨rfl, rfl⟩
 go_wp2_with fail
 go_end0
 exact ⟨rfl, _, grown_set2, (hb.set 0 _).alloc _, .ptr⟩
include ha hn hof in
theorem fill_tdf (hb : Blk w b #[.string nm, .nilIface, .slice none 0 0] 198) (h1 : 1 ≤ of) :
  Calls Tryz.prog 51 #[.iface 196 (.pointer (some ⟨b, 0, none⟩)), .agg #[.int .i64 8, .string nm, .int .i64 sz, .int .i64 en, .int .i64 fl, .int .i64 of, .int .i64 ix, mv], .func (.func 50) #[] #[.pointer (some ⟨oc, 0, none⟩)]] w
   fun e w' => e = .returned (.tuple #[]) ∧ FillPost w b lo 198 pt ob nm sz en fl of ix q ys 8 w' := by
 have nPointer := taNoPointer 196 (by decide)
 have nArray := taNoArray 196 (by decide)
 have nStruct := taNoStruct 196 (by decide)
 have nUnion := taNoUnion 196 (by decide)
 have nEnum := taNoEnum 196 (by decide)
 have y0 := @ta_yes _ _ Tryz.underlying196
 have hbl := hb.lt
 have hbf := (hb.alloc (.cells #[.int .i64 8, .string nm, .int .i64 sz, .int .i64 en, .int .i64 fl, .int .i64 of, .int .i64 ix, mv] 72)).free 1
 have hbc := (hb.alloc (.cells #[.int .i64 8, .string nm, .int .i64 sz, .int .i64 en, .int .i64 fl, .int .i64 of, .int .i64 ix, mv] 72)).cell 1
 simp only [List.getElem?_toArray, List.getElem?_cons_zero, List.getElem?_cons_succ] at hbc
 go_enter Tryz.func51, Tryz.ntmps51
 go_wp2_with fail
 refine (at_any of n cap og oc pt ob _ h1 hof hn (ha.old ((Below.refl _ _).alloc (Nat.le_refl _) _))).mono ?_
 rintro e w1 ⟨rfl, rfl⟩
 go_wp2_with fail
 go_end0
 exact ⟨rfl, _, grown_set2, (hb.set 1 _).alloc _, .tdf⟩
include ha hn hof in
theorem fill_cst (hb : Blk w b #[.nilIface] 203) (h1 : 1 ≤ of) :
  Calls Tryz.prog 51 #[.iface 202 (.pointer (some ⟨b, 0, none⟩)), .agg #[.int .i64 10, .string nm, .int .i64 sz, .int .i64 en, .int .i64 fl, .int .i64 of, .int .i64 ix, mv], .func (.func 50) #[] #[.pointer (some ⟨oc, 0, none⟩)]] w
   fun e w' => e = .returned (.tuple #[]) ∧ FillPost w b lo 203 pt ob nm sz en fl of ix q ys 10 w' := by
 have nPointer := taNoPointer 202 (by decide)
 have nArray := taNoArray 202 (by decide)
 have nStruct := taNoStruct 202 (by decide)
 have nUnion := taNoUnion 202 (by decide)
 have nEnum := taNoEnum 202 (by decide)
 have nTypedef := taNoTypedef 202 (by decide)
 have nVolatile := taNoVolatile 202 (by decide)
 have y0 := @ta_yes _ _ Tryz.underlying202
 have hbl := hb.lt
 have hbf := (hb.alloc (.cells #[.int .i64 10, .string nm, .int .i64 sz, .int .i64 en, .int .i64 fl, .int .i64 of, .int .i64 ix, mv] 72)).free 0
 have hbc := (hb.alloc (.cells #[.int .i64 10, .string nm, .int .i64 sz, .int .i64 en, .int .i64 fl, .int .i64 of, .int .i64 ix, mv] 72)).cell 0
 simp only [List.getElem?_toArray, List.getElem?_cons_zero, List.getElem?_cons_succ] at hbc
 go_enter Tryz.func51, Tryz.ntmps51
 go_wp2_with fail
 refine (at_any of n cap og oc pt ob _ h1 hof hn (ha.old ((Below.refl _ _).alloc (Nat.le_refl _) _))).mono ?_
 rintro e w1 ⟨rfl, rfl⟩
 go_wp2_with fail
 go_end0
 exact ⟨rfl, _, grown_set2, (hb.set 0 _).alloc _, .cst⟩
end
end Go.Proofs.YtfilbgmbmlmdbaaGreatDoor
