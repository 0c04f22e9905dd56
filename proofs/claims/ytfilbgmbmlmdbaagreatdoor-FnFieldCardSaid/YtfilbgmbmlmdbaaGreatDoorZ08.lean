/- What the rows of a list say of the type that was listed. Nothing is claimed here. -/
import Derived.Test.YtfilbgmbmlmdbaaGreatDoorZ05
import Derived.Test.YtfilbgmbmlmdbaaGreatDoorZ07
import Derived.Test.YtfilbgmbmlmdbaaGreatDoorZ01
import Derived.WalkKit
import Derived.LaidEql
import Derived.Stop.Asserts
import Derived.RowKitTokens
import Derived.Test.YtfilbgmbmlmdbaaGreatDoorZ06
import Derived.Deep.DeepCutAuto
set_option linter.unusedSimpArgs false
set_option linter.unusedVariables false
set_option maxRecDepth 1000000
set_option maxHeartbeats 16000000
namespace Go.Proofs.YtfilbgmbmlmdbaaGreatDoor
open Go.RowKit
inductive RT (f : Nat → RowD) : Nat → Ty → Prop
 | int {i sz : Nat} {sg : Bool} {nm : ByteArray} (hk : (f i).k = 1) (hn : (f i).nm = nm) (hs : (f i).sz = (sz : Int)) (he : (f i).en = if sg then 1 else 0) : RT f i (.int sz sg nm)
 | ptr {i j : Nat} {t : Ty} (hk : (f i).k = 2) (ho : (f i).of = j + 1) (r : RT f j t) : RT f i (.ptr t)
 | arr {i j x n : Nat} {t : Ty} (hk : (f i).k = 3) (hs : (f i).sz = (n : Int)) (ho : (f i).of = j + 1) (hx : (f i).ix = x + 1) (rx : (f x).k = 1) (r : RT f j t) : RT f i (.arr n t)
 | named {i j : Nat} {nm : ByteArray} {t : Ty} (hk : (f i).k = 8) (hn : (f i).nm = nm) (ho : (f i).of = j + 1) (r : RT f j t) : RT f i (.named nm t)
 | cst {i j : Nat} {t : Ty} (hk : (f i).k = 10) (ho : (f i).of = j + 1) (r : RT f j t) : RT f i (.cst t)
 | enm {i n : Nat} {nm : ByteArray} {sg : Bool} {vn : Nat → ByteArray} {vv : Nat → Int} (hk : (f i).k = 6) (hn : (f i).nm = nm) (hs : (f i).sz = 4) (hl : (f i).fl = if sg then 1 else 0) (hq : (f i).q = n)
   (hr : ∀ j, j < n → PRow (f i).ys j (vn j) (.int .i64 0) 0 0 (vv j)) : RT f i (.enm nm sg n vn vv)
 | comp {i sz n : Nat} {un : Bool} {nm : ByteArray} {pn : Nat → ByteArray} {py : Nat → Ty} {pa pb : Nat → Nat} {pc : Nat → Nat} (hk : (f i).k = if un then 5 else 4) (hn : (f i).nm = nm) (hs : (f i).sz = (sz : Int)) (hq : (f i).q = n)
   (hr : ∀ j, j < n → PRow (f i).ys j (pn j) (.int .i64 ((pc j + 1 : Nat) : Int)) (pa j) (pb j) 0) (r : ∀ j, j < n → RT f (pc j) (py j)) : RT f i (.comp un nm sz n pn py pa pb)
theorem LRow.uniq {xs : List Value} {i : Nat} {k k' : Int} {nm nm' : ByteArray} {sz en fl of ix sz' en' fl' of' ix' : Int} {mv mv' : Value} (h : LRow xs i k nm sz en fl of ix mv) (h' : LRow xs i k' nm' sz' en' fl' of' ix' mv') :
  k = k' ∧ nm = nm' ∧ sz = sz' ∧ en = en' ∧ fl = fl' ∧ of = of' ∧ ix = ix' ∧ mv = mv' := by
 obtain ⟨a0, a1, a2, a3, a4, a5, a6, a7⟩ := h
 obtain ⟨b0, b1, b2, b3, b4, b5, b6, b7⟩ := h'
 rw [a0] at b0; rw [a1] at b1; rw [a2] at b2; rw [a3] at b3; rw [a4] at b4; rw [a5] at b5; rw [a6] at b6; rw [a7] at b7
 cases b0; cases b1; cases b2; cases b3; cases b4; cases b5; cases b6; cases b7
 exact ⟨rfl, rfl, rfl, rfl, rfl, rfl, rfl, rfl⟩
theorem own_uniq {w : World} {base base' e size n n' : Nat} {v : Value} {xs xs' : List Value} (h : w.ownsRow base e size v n xs) (h' : w.ownsRow base' e size v n' xs') : n = n' ∧ xs = xs' := by
 obtain ⟨l, h⟩ := h
 obtain ⟨l', h'⟩ := h'
 rcases h with ⟨rfl, rfl⟩ | ⟨g, cap, cur, rfl, _, h1, _, _, _, h2⟩
 ·rcases h' with ⟨_, rfl⟩ | ⟨g', cap', cur', e', _⟩
  ·refine ⟨rfl, ?_⟩
   have a : xs = [] := List.eq_nil_of_length_eq_zero (by omega)
   have b : xs' = [] := List.eq_nil_of_length_eq_zero (by omega)
   rw [a, b]
  ·cases e'
 ·rcases h' with ⟨e', _⟩ | ⟨g', cap', cur', e', _, h3, _, _, _, h4⟩
  ·cases e'
  ·cases e'
   rw [h1] at h3
   cases h3
   exact ⟨rfl, by rw [← h2, ← h4]⟩
theorem LSt.rt {W w : World} {lb mb : Nat} {ixv : Value} {hb n : Nat} {X D : Nat → Prop} {v : Value} {xs : List Value} {m : Value → Option Value} {f : Nat → RowD} (st : LSt W lb mb ixv hb X n v xs m (fun _ => False) w) (hf : ∀ i, i < n → FitsD w D xs n i (f i))
  (hix : ∃ ib sz sg nm, ixv = .pointer (some ⟨ib, 0, none⟩) ∧ Rep W (Ex lb mb hb) ib (.int sz sg nm)) {b : Nat} {t : Ty} (r : Rep W (Ex lb mb hb) b t) :
  ∀ i : Nat, m (.pointer (some ⟨b, 0, none⟩)) = some (.int .i64 ((i + 1 : Nat) : Int)) → i < n ∧ RT f i t := by
 have hrow : ∀ b i, m (.pointer (some ⟨b, 0, none⟩)) = some (.int .i64 ((i + 1 : Nat) : Int)) → i < n ∧ RowOk W w (fun g => Wr lb mb v g ∨ X g) xs m ixv b i := fun b i hmb => by
  obtain ⟨b', i', t', e1, e2, hi, _, _, hro⟩ := st.key _ _ hmb
  simp only [Value.pointer.injEq, Option.some.injEq, Addr.mk.injEq, and_true] at e1
  simp only [Value.int.injEq, true_and] at e2
  obtain rfl : i' = i := by omega
  subst e1
  rcases hro with hro | hro
  ·exact hro.elim
  ·exact ⟨hi, hro⟩
 have hnum : ∀ x (z : Nat), m x = some (.int .i64 (z : Int)) → ∃ j, z = j + 1 := fun x z hx => by
  obtain ⟨_, j, _, _, h2, _, _⟩ := st.key x _ hx
  simp only [Value.int.injEq, true_and] at h2
  exact ⟨j, by omega⟩
 have hone : ∀ b i sz sg nm, Rep W (Ex lb mb hb) b (.int sz sg nm) → m (.pointer (some ⟨b, 0, none⟩)) = some (.int .i64 ((i + 1 : Nat) : Int)) → (f i).k = 1 := fun b i sz sg nm r hmb => by
  obtain ⟨hi, hro⟩ := hrow b i hmb
  cases r with
  | int h' _ =>
   have h1 := hro.kind h'
   have h2 := (hf i hi).row.1
   rw [h1] at h2
   simp only [Option.some.injEq, Value.int.injEq, true_and] at h2
   exact h2.symm
 induction r with
 | @int b sz sg nm h' hd =>
  intro i hmb
  obtain ⟨hi, hro⟩ := hrow b i hmb
  refine ⟨hi, ?_⟩
  cases hro with
  | int h l =>
   obtain ⟨_, e1, e2, e3, _, _⟩ := h.inj6 h'
   obtain ⟨u1, u2, u3, u4, _⟩ := (hf i hi).row.uniq l
   simp only [Value.int.injEq, Value.string.injEq, Value.bool.injEq, true_and] at e1 e2 e3
   exact .int u1 (u2.trans e1) (u3.trans e2) (by rw [u4, e3])
  | of hk h hm l => have := (h.inj6 h').1; simp at this; omega
  | arr h hm hx l => have := (h.inj6 h').1; simp at this
  | enm h hp ho hv hr l => have := (h.inj6 h').1; simp at this
  | comp hk h hp ho hv hr l => have := (h.inj6 h').1; simp at this; omega
 | @ptr b c t h' hd rc ih =>
  intro i hmb
  obtain ⟨hi, hro⟩ := hrow b i hmb
  refine ⟨hi, ?_⟩
  cases hro with
  | int h l => have := (h.inj6 h').1; simp at this
  | @of k nm' sz sg o pv z hk h hm l =>
   obtain ⟨e0, e1, _, _, e4, _⟩ := h.inj6 h'
   simp only [Value.int.injEq, Value.string.injEq, true_and] at e0 e1
   subst e0 e4
   obtain ⟨j, rfl⟩ := hnum _ _ hm
   obtain ⟨u1, u2, _, _, _, u6, _⟩ := (hf i hi).row.uniq l
   exact .ptr u1 (by omega) (ih j hm).2
  | arr h hm hx l => have := (h.inj6 h').1; simp at this
  | enm h hp ho hv hr l => have := (h.inj6 h').1; simp at this
  | comp hk h hp ho hv hr l => have := (h.inj6 h').1; simp at this; omega
 | @arr b c n' t h' hd rc ih =>
  intro i hmb
  obtain ⟨hi, hro⟩ := hrow b i hmb
  refine ⟨hi, ?_⟩
  cases hro with
  | int h l => have := (h.inj6 h').1; simp at this
  | of hk h hm l => have := (h.inj6 h').1; simp at this; omega
  | @arr nm' sz sg o pv z zx h hm hx l =>
   obtain ⟨_, _, e2, _, e4, _⟩ := h.inj6 h'
   simp only [Value.int.injEq, true_and] at e2
   subst e4
   obtain ⟨j, rfl⟩ := hnum _ _ hm
   obtain ⟨x, rfl⟩ := hnum _ _ hx
   obtain ⟨u1, u2, u3, _, _, u6, u7, _⟩ := (hf i hi).row.uniq l
   obtain ⟨ib, sz', sg', nm2, rfl, rix⟩ := hix
   exact .arr u1 (u3.trans e2) (by omega) (by omega) (hone _ _ _ _ _ rix hx) (ih j hm).2
  | enm h hp ho hv hr l => have := (h.inj6 h').1; simp at this
  | comp hk h hp ho hv hr l => have := (h.inj6 h').1; simp at this; omega
 | @named b c nm t h' hd rc ih =>
  intro i hmb
  obtain ⟨hi, hro⟩ := hrow b i hmb
  refine ⟨hi, ?_⟩
  cases hro with
  | int h l => have := (h.inj6 h').1; simp at this
  | @of k nm' sz sg o pv z hk h hm l =>
   obtain ⟨e0, e1, _, _, e4, _⟩ := h.inj6 h'
   simp only [Value.int.injEq, Value.string.injEq, true_and] at e0 e1
   subst e0 e4
   obtain ⟨j, rfl⟩ := hnum _ _ hm
   obtain ⟨u1, u2, _, _, _, u6, _⟩ := (hf i hi).row.uniq l
   exact .named u1 (u2.trans e1) (by omega) (ih j hm).2
  | arr h hm hx l => have := (h.inj6 h').1; simp at this
  | enm h hp ho hv hr l => have := (h.inj6 h').1; simp at this
  | comp hk h hp ho hv hr l => have := (h.inj6 h').1; simp at this; omega
 | @cst b c t h' hd rc ih =>
  intro i hmb
  obtain ⟨hi, hro⟩ := hrow b i hmb
  refine ⟨hi, ?_⟩
  cases hro with
  | int h l => have := (h.inj6 h').1; simp at this
  | @of k nm' sz sg o pv z hk h hm l =>
   obtain ⟨e0, e1, _, _, e4, _⟩ := h.inj6 h'
   simp only [Value.int.injEq, Value.string.injEq, true_and] at e0 e1
   subst e0 e4
   obtain ⟨j, rfl⟩ := hnum _ _ hm
   obtain ⟨u1, u2, _, _, _, u6, _⟩ := (hf i hi).row.uniq l
   exact .cst u1 (by omega) (ih j hm).2
  | arr h hm hx l => have := (h.inj6 h').1; simp at this
  | enm h hp ho hv hr l => have := (h.inj6 h').1; simp at this
  | comp hk h hp ho hv hr l => have := (h.inj6 h').1; simp at this; omega
 | @enm b n' nm sg vn vv v' xs' h' hd ho' hv' hr' =>
  intro i hmb
  obtain ⟨hi, hro⟩ := hrow b i hmb
  refine ⟨hi, ?_⟩
  cases hro with
  | int h l => have := (h.inj6 h').1; simp at this
  | of hk h hm l => have := (h.inj6 h').1; simp at this; omega
  | arr h hm hx l => have := (h.inj6 h').1; simp at this
  | @enm nm2 sz sg2 o pv mv q ys h hp ho hv hr l =>
   obtain ⟨_, e1, e2, e3, _, e5⟩ := h.inj6 h'
   simp only [Value.int.injEq, Value.string.injEq, Value.bool.injEq, true_and] at e1 e2 e3
   obtain ⟨u1, u2, u3, _, u5, _, _, u8⟩ := (hf i hi).row.uniq l
   obtain ⟨_, _, rfl⟩ := hp
   obtain ⟨_, _, e6⟩ := own_slice ho'
   have e7 := e5
   rw [e6] at e7
   simp only [Value.slice.injEq] at e7
   obtain rfl : q = n' := e7.2.1
   have hown := (hf i hi).own
   rw [u8] at hown
   obtain ⟨eq, ey⟩ := own_uniq hown ho
   refine .enm u1 (u2.trans e1) (u3.trans e2) (by rw [u5, e3]) eq fun j hj => ?_
   obtain ⟨pn, po, pa, pb, pv', hpt, hpr⟩ := hr j hj
   have hp2 := PartAt.of ho' (hr' j hj) hj
   rw [← e5] at hp2
   obtain ⟨ea, _, _, _, ee⟩ := hpt.uniq hp2
   rw [ey, ← ea, ← ee]
   exact hpr
  | comp hk h hp ho hv hr l => have := (h.inj6 h').1; simp at this; omega
 | @comp b sz n' un nm pn py pa pb v' xs' pc h' hd ho' hv' hr' hc ih =>
  intro i hmb
  obtain ⟨hi, hro⟩ := hrow b i hmb
  refine ⟨hi, ?_⟩
  cases hro with
  | int h l => have := (h.inj6 h').1; cases un <;> simp at this
  | of hk h hm l => have := (h.inj6 h').1; cases un <;> simp at this <;> omega
  | arr h hm hx l => have := (h.inj6 h').1; cases un <;> simp at this
  | enm h hp ho hv hr l => have := (h.inj6 h').1; cases un <;> simp at this
  | @comp k nm2 sz2 sg2 o pv mv q ys hk h hp ho hv hr l =>
   obtain ⟨e0, e1, e2, _, _, e5⟩ := h.inj6 h'
   simp only [Value.int.injEq, Value.string.injEq, true_and] at e0 e1 e2
   obtain ⟨u1, u2, u3, _, _, _, _, u8⟩ := (hf i hi).row.uniq l
   obtain ⟨_, _, rfl⟩ := hp
   obtain ⟨_, _, e6⟩ := own_slice ho'
   have e7 := e5
   rw [e6] at e7
   simp only [Value.slice.injEq] at e7
   obtain rfl : q = n' := e7.2.1
   have hown := (hf i hi).own
   rw [u8] at hown
   obtain ⟨eq, ey⟩ := own_uniq hown ho
   have hpart : ∀ j, ∃ z : Nat, j < q → PRow (f i).ys j (pn j) (.int .i64 ((z + 1 : Nat) : Int)) (pa j) (pb j) 0 ∧ m (.pointer (some ⟨pc j, 0, none⟩)) = some (.int .i64 ((z + 1 : Nat) : Int)) := fun j => by
    by_cases hj : j < q
    ·obtain ⟨qn, qo, qa, qb, qv, z, hpt, hmz, hpr⟩ := hr j hj
     have hp2 := PartAt.of ho' (hr' j hj) hj
     rw [← e5] at hp2
     obtain ⟨ea, eb, ec, ed, _⟩ := hpt.uniq hp2
     obtain ⟨z', rfl⟩ := hnum _ _ hmz
     subst ea eb ec ed
     exact ⟨z', fun _ => ⟨by rw [ey]; exact hpr, hmz⟩⟩
    ·exact ⟨0, fun h => absurd h hj⟩
   obtain ⟨pz, hpz⟩ := Classical.axiomOfChoice hpart
   exact .comp (u1.trans e0) (u2.trans e1) (u3.trans e2) eq (fun j hj => (hpz j hj).1) (fun j hj => (ih j hj (pz j) (hpz j hj).2).2)
def ListedT (W : World) (t : Ty) (c : Nat) (e : Ending) (w' : World) : Prop :=
 ∃ (v : Value) (n i : Nat) (xs : List Value) (D : Nat → Prop) (f : Nat → RowD), e = .returned (.tuple #[v, .int .i64 ((i + 1 : Nat) : Int)]) ∧ Rows w' v n xs D ∧ (∀ i, i < n → FitsD w' D xs n i (f i)) ∧ RT f i t ∧ i < n ∧ n ≤ c ∧ Below W.heap.size W w'
theorem listedT_of (put_any : ∀ t, PutC t) (b : Nat) (t : Ty) (w : World) (r : Rep w Nowhere b t) (hg : Good t) (hc : t.cnt ≤ 1000000) :
  Calls Tryz.prog 14 #[.pointer (some ⟨b, 0, none⟩)] w (ListedT w t t.cnt) := by
 have hmm := @run_makeMap Tryz.prog
 go_enter Tryz.func14, Tryz.ntmps14
 go_wp2_with fail
 refine (indexType_any _).mono ?_
 rintro e w1 ⟨rfl, rfl⟩
 go_wp2_with fail
 change Calls _ _ _ (listedW w) _
 obtain ⟨hbw, hsz, b0, b1, b2, b3, b4, b5, b6⟩ := listedW_blocks w
 have hex : ∀ g, ¬ Ex (w.heap.size + 1) (w.heap.size + 1 + 1) w.heap.size g ↔ g ≠ w.heap.size + 1 ∧ g ≠ w.heap.size + 1 + 1 ∧ g ≠ w.heap.size := fun g => by unfold Ex; omega
 have henv : Env (listedW w) (w.heap.size + 1 + 1 + 1) (w.heap.size + 1) (w.heap.size + 1 + 1 + 1 + 1 + 1 + 1) (w.heap.size + 1 + 1 + 1 + 1 + 1) (w.heap.size + 1 + 1) (w.heap.size + 1 + 1 + 1 + 1) w.heap.size (listedW w) :=
  ⟨b3, b6, b5, ⟨by omega, by omega, by omega⟩, (hex _).2 (by omega), (hex _).2 (by omega), (hex _).2 (by omega)⟩
 have hr : Rep (listedW w) (Ex (w.heap.size + 1) (w.heap.size + 1 + 1) w.heap.size) b t := r.keep (fun k hk _ => hbw.block k hk) (fun k hk hx => by unfold Ex at hx; omega)
 have rix : Rep (listedW w) (Ex (w.heap.size + 1) (w.heap.size + 1 + 1) w.heap.size) (w.heap.size + 1 + 1 + 1 + 1) (.int 4 false ⟨#[117, 52]⟩) := .int b4 ((hex _).2 (by omega))
 refine (put_any t (listedW w) _ _ _ _ _ _ _ b (fun _ => False) 0 _ [] (fun _ => none) (fun _ => False) (listedW w) henv (LSt.start _ b1 b2 b0 (by omega) (by omega) (by omega)) hr hg (.int b4 ((hex _).2 (by omega))) (by omega)).mono ?_
 rintro e w' ⟨i, n', v', xs', m', rfl, st, hi, -, hn', -, -, hmi, -, -⟩
 have l0 := st.lst.cell 0
 simp only [List.getElem?_toArray, List.getElem?_cons_zero] at l0
 have rows : Rows w' v' n' xs' (Wr (w.heap.size + 1) (w.heap.size + 1 + 1) v') := ⟨st.own, fun g hg => .inr (.inr hg), fun i hi => st.fits i hi⟩
 obtain ⟨f, hf⟩ := rows.data
 have hrt := (st.rt hf ⟨_, _, _, _, rfl, rix⟩ hr i hmi).2
 have ho := st.old
 have hbel : Below w.heap.size w w' := ⟨ho.os.trans hbw.os, ho.tape.trans hbw.tape, ho.output.trans hbw.output, Nat.le_trans hbw.size ho.size, fun k hk => (ho.block k (by omega) ((hex _).2 (by omega))).trans (hbw.block k hk)⟩
 have Hf := Lib.hid hf
 have Hrt := Lib.hid hrt
 have Hbel := Lib.hid hbel
 clear hf hrt hbel
 go_wp2_with fail
 go_ret2
 exact ⟨v', n', i, xs', _, f, rfl, rows, Hf.out, Hrt.out, hi, by omega, Hbel.out⟩
end Go.Proofs.YtfilbgmbmlmdbaaGreatDoor
namespace Go.Proofs.YtfilbgmbmlmdbaaGreatDoor
open Go.RowKit Go.Extern.Stop Go.Stop Go.Extern
theorem isTypeOf (v : Value) (w : World) : (Extern.ReflectliteType.typeOf #[.iface 228 v]).run Tryz.prog w = .ok (.iface 262 (.agg #[.pointer (some ⟨9, 228, none⟩)])) w := by kernel_rfl
def cmpEntry : Array Value → Sem Value := Extern.ReflectliteType.method fun t => do
 Extern.Rtype.noPackHeld "Comparable" t
 pure (.bool (← typeInfo t).comparable)
theorem isComparable (w : World) : (cmpEntry #[.agg #[.pointer (some ⟨9, 228, none⟩)]]).run Tryz.prog w = .ok (.bool true) w := by kernel_rfl
theorem isComp : (Tryz.prog.info? 228).map (·.comparable) = some true := by kernel_rfl
theorem isSize : (Tryz.prog.info? 230).map (·.size) = some 1 := by kernel_rfl
theorem noIsE (v : Value) (xT : TypeId) (w : World) : (Instr.typeAssert (.iface 228 v) xT 264 true).run Tryz.prog w = .ok (.tuple #[.nilIface, .bool false]) w := run_typeAssert_lacksB Tryz.underlying264 (by kernel_rfl) (by kernel_rfl) v xT w
theorem noUnwrapE (v : Value) (xT : TypeId) (w : World) : (Instr.typeAssert (.iface 228 v) xT 267 true).run Tryz.prog w = .ok (.tuple #[.nilIface, .bool false]) w := run_typeAssert_lacksB Tryz.underlying267 (by kernel_rfl) (by kernel_rfl) v xT w
theorem noUnwrapsE (v : Value) (xT : TypeId) (w : World) : (Instr.typeAssert (.iface 228 v) xT 269 true).run Tryz.prog w = .ok (.tuple #[.nilIface, .bool false]) w := run_typeAssert_lacksB Tryz.underlying269 (by kernel_rfl) (by kernel_rfl) v xT w
theorem is_same (a : Addr) (w : World) :
  Calls Tryz.prog 58 #[.iface 228 (.pointer (some a)), .iface 228 (.pointer (some a))] w fun e w' => e = .returned (.bool true) ∧ w' = w := by
 obtain ⟨i, hi, hcmp⟩ := Option.map_eq_some_iff.1 isComp
 obtain ⟨j, hj, hjs⟩ := Option.map_eq_some_iff.1 isSize
 have h8 := @run_callFunc_extern Tryz.prog 76 _ Extern.ReflectliteType.typeOf Tryz.func76 (by kernel_rfl) (by kernel_rfl) (by kernel_rfl) (by kernel_rfl)
 have h32 := @run_callFunc_extern Tryz.prog 182 _ cmpEntry Tryz.func182 (by kernel_rfl) (by kernel_rfl) (by kernel_rfl) (by kernel_rfl)
 have tT := isTypeOf
 have cT := isComparable
 have heq := run_eql_iface_ptr_same (P := Tryz.prog) w a Tryz.underlying84 Tryz.underlying228 hi hcmp hj
 go_enter Tryz.func58, Tryz.ntmps58
 go_wp2
 refine wp_loop_rounds 1 ?_
 rw [rounds_succ]
 go_wp2
 go_ret
 exact ⟨rfl, rfl⟩
theorem is_nil (b : Addr) (w : World) :
  Calls Tryz.prog 58 #[.nilIface, .iface 228 (.pointer (some b))] w fun e w' => e = .returned (.bool false) ∧ w' = w := by
 have hn := run_eql_iface_nil_left (P := Tryz.prog) w 228 (.pointer (some b)) Tryz.underlying84
 go_enter Tryz.func58, Tryz.ntmps58
 go_wp2
 go_ret
 exact ⟨rfl, rfl⟩
theorem is_other (a b : Addr) (ca cb : Array Value) (ta tb : TypeId) (w : World) (hne : a ≠ b) (ha : w.heap[a.block]? = some (.cells ca ta (0, 0))) (hb : w.heap[b.block]? = some (.cells cb tb (0, 0))) :
  Calls Tryz.prog 58 #[.iface 228 (.pointer (some a)), .iface 228 (.pointer (some b))] w fun e w' => e = .returned (.bool false) ∧ w' = w := by
 obtain ⟨i, hi, hcmp⟩ := Option.map_eq_some_iff.1 isComp
 obtain ⟨j, hj, hjs⟩ := Option.map_eq_some_iff.1 isSize
 have h8 := @run_callFunc_extern Tryz.prog 76 _ Extern.ReflectliteType.typeOf Tryz.func76 (by kernel_rfl) (by kernel_rfl) (by kernel_rfl) (by kernel_rfl)
 have h32 := @run_callFunc_extern Tryz.prog 182 _ cmpEntry Tryz.func182 (by kernel_rfl) (by kernel_rfl) (by kernel_rfl) (by kernel_rfl)
 have tT := isTypeOf
 have cT := isComparable
 have nE := noIsE
 have uE := noUnwrapE
 have vE := noUnwrapsE
 have heq := run_eql_iface_ptr_other (P := Tryz.prog) w Tryz.underlying84 Tryz.underlying228 hi hcmp hj (by rw [hjs]; decide) hne ha hb
 go_enter Tryz.func58, Tryz.ntmps58
 go_wp2
 refine wp_loop_rounds 1 ?_
 rw [rounds_succ]
 go_wp2
 go_ret
 exact ⟨rfl, rfl⟩
end Go.Proofs.YtfilbgmbmlmdbaaGreatDoor
namespace Go.Proofs.YtfilbgmbmlmdbaaGreatDoor
open Go.RowKit
theorem typesInfo : (Tryz.prog.info? 77).map (fun i => (i.zero, i.size, i.bytes)) = some (some .nilIface, 1, 16) := by kernel_rfl
def Built (w : World) (n : Nat) (f : Nat → RowD) (e : Ending) (w' : World) : Prop :=
 ∃ og oc lo os pt ob, e = .returned (.tuple #[.slice (some ⟨og, 0, none⟩) n n, .bool true]) ∧ B2 w n f og oc lo os pt ob n w'
section
variable (w : World) (k : Int) (nm : ByteArray) (sz en fl : Int) (of ix : Nat) (mv : Value) (q n cap og oc b lo : Nat) (ys : List Value) (pt : Nat → TypeId) (ob : Nat → Nat) (ha : AtSt w n cap og oc pt ob) (hn : n ≤ 1000000) (hlo : lo ≤ w.heap.size)
include ha hn hlo in
theorem fill_all {w0 : World} {D : Nat → Prop} {xs : List Value} {i : Nat} {mv0 : Value} {p : TypeId} {cs : Array Value} {ty : TypeId} (hf : RowFits w0 D xs n i k nm sz en fl of ix mv0 q ys) (hobj : ObjC nm sz en fl k p cs ty) (hb : Blk w b cs ty) (hbo : b ≠ og ∧ b ≠ oc)
  (ho : w.ownsRow 0 74 5 mv q ys) (hmb : mv.ownBlock ≠ some b) :
  Calls Tryz.prog 51 #[.iface p (.pointer (some ⟨b, 0, none⟩)), .agg #[.int .i64 k, .string nm, .int .i64 sz, .int .i64 en, .int .i64 fl, .int .i64 of, .int .i64 ix, mv], .func (.func 50) #[] #[.pointer (some ⟨oc, 0, none⟩)]] w
   fun e w' => e = .returned (.tuple #[]) ∧ FillPost w b lo ty pt ob nm sz en fl of ix q ys k w' := by
 have hmem : k = 4 ∨ k = 5 → ∀ j, j < q → ∃ (nm : ByteArray) (o : Nat) (a b v : Int), PRow ys j nm (.int .i64 o) a b v ∧ (1 ≤ o ∧ o ≤ n) ∧ (0 ≤ a ∧ a < 4294967296) ∧ (0 ≤ b ∧ b < 4294967296) := fun hk j hj => by
  obtain ⟨nm, o, a, b, v, h1, h2, h3, h4⟩ := hf.mem j hj
  exact ⟨nm, o, a, b, v, h1, ⟨hf.some2 hk j hj _ _ _ _ _ h1, h2⟩, h3, h4⟩
 cases hobj with
 | int => exact fill_int w nm sz en fl of ix mv q oc b lo ys pt ob hb
 | ptr => exact fill_ptr w nm sz en fl of ix mv q n cap og oc b lo ys pt ob ha hn hf.hof hb (hf.some1.1 (.inl rfl))
 | arr => exact fill_arr w nm sz en fl of ix mv q n cap og oc b lo ys pt ob ha hn hlo hf.hof hf.hix hbo hb (hf.some1.1 (.inr (.inl rfl))) (hf.some1.2 rfl)
 | str => exact fill_str w nm sz en fl of ix mv q n cap og oc b lo ys pt ob ha hn hlo hf.hof hf.hix hbo hb ho hf.few (hmem (.inl rfl))
 | uni => exact fill_uni w nm sz en fl of ix mv q n cap og oc b lo ys pt ob ha hn hlo hf.hof hf.hix hbo hb ho hf.few (hmem (.inr rfl))
 | enm => exact fill_enm w nm sz en fl of ix mv q n oc b lo ys pt ob hlo hb ho hf.few hmb hf.mem
 | tdf => exact fill_tdf w nm sz en fl of ix mv q n cap og oc b lo ys pt ob ha hn hf.hof hb (hf.some1.1 (.inr (.inr (.inl rfl))))
 | cst => exact fill_cst w nm sz en fl of ix mv q n cap og oc b lo ys pt ob ha hn hf.hof hb (hf.some1.1 (.inr (.inr (.inr rfl))))
end
theorem build_any (w : World) (n cap g : Nat) (xs : List Value) (Dx : Nat → Prop) (f : Nat → RowD) (ho : w.ownsRow 0 72 8 (.slice (some ⟨g, 0, none⟩) n cap) n xs) (hn : n ≤ 1000000) (hf : ∀ i, i < n → FitsD w Dx xs n i (f i)) :
  Calls Tryz.prog 43 #[.slice (some ⟨g, 0, none⟩) n cap] w (Built w n f) := by
 obtain ⟨ti, hti, hz0, hz1, hz2⟩ := info_parts typesInfo
 have hgl := (ho.lt g rfl).2
 have hks := kinds_at ho hf
 have hn63 : n ≤ maxLen := by unfold maxLen; omega
 have hby : ti.bytes * n ≤ 281474976710656 := by rw [hz2]; omega
 go_enter Tryz.func43, Tryz.ntmps43
 go_wp2_with (at_make; refine wpList_make_full _ rfl _ _ _ rfl w.heap.size 77 ti .nilIface 1 Tryz.underlying78 hti hz0 hz1 .i64 .i64 _ _ n rfl rfl rfl rfl hby hn63 (Nat.le_refl _) ?_; intro w1 hown1 hgr1)
 have hb1 : Below w.heap.size w w1 := (Below.refl _ _).grown hgr1 (Nat.le_refl _) (fun k hk => by cases hk)
 have hogl := (hown1.lt _ rfl).2
 have hocne : w1.heap.size ≠ w.heap.size := fun e => by rw [e] at hogl; exact Nat.lt_irrefl _ hogl
 have hst : B1 w n f w.heap.size w1.heap.size _ (fun _ => 0) (fun _ => 0) 0 (w1.alloc (.cells #[.slice (some ⟨w.heap.size, 0, none⟩) n n] 78)) :=
  ⟨hb1.alloc hb1.size _, Blk.new _ _ _, hown1.alloc _, fun i h => by omega, fun i h => by omega, fun i j _ h => by omega, hb1.size, hocne⟩
 go_loopg [17] n (fun gk s17 wr => ∃ k os pt ob, k ≤ n ∧ n - k ≤ gk ∧ s17 = .int .i64 (k : Nat) ∧ B1 w n f w.heap.size w1.heap.size os pt ob k wr)
 case atStart => exact ⟨0, _, _, _, Nat.zero_le _, Nat.le_refl _, rfl, hst⟩
 case round =>
  obtain ⟨k, os, pt, ob, hk, hgk, rfl, st⟩ := hrel
  by_cases hlt : k < n
  ·have hfk := hf k hlt
   have hor := ownsRow_of ho fun x _ hl => st.old.block x hl
   obtain ⟨q0, q1, q2, q3, q4, q5, q6, q7⟩ := lrow_cells hor hfk.row
   obtain ⟨ma, mcap, hmv⟩ := own_slice hfk.own
   rw [hmv] at q7
   have hgl2 : g < wr.heap.size := Nat.lt_of_lt_of_le hgl st.old.size
   have hocl : w1.heap.size < wr.heap.size := st.var.lt
   go_upto_region 5 with fail
   have hb5 : Below wr.heap.size wr (wr.alloc (.cells #[.int .i64 (f k).k, .string (f k).nm, .int .i64 (f k).sz, .int .i64 (f k).en, .int .i64 (f k).fl, .int .i64 (f k).of, .int .i64 (f k).ix, .slice ma (f k).q mcap] 72)) := (Below.refl _ _).alloc (Nat.le_refl _) _
   have hr5 : Blk (wr.alloc (.cells #[.int .i64 (f k).k, .string (f k).nm, .int .i64 (f k).sz, .int .i64 (f k).en, .int .i64 (f k).fl, .int .i64 (f k).of, .int .i64 (f k).ix, .slice ma (f k).q mcap] 72)) wr.heap.size #[.int .i64 (f k).k, .string (f k).nm, .int .i64 (f k).sz, .int .i64 (f k).en, .int .i64 (f k).fl, .int .i64 (f k).of, .int .i64 (f k).ix, .slice ma (f k).q mcap] 72 := Blk.new _ _ _
   have hw5 : Below w.heap.size w (wr.alloc (.cells #[.int .i64 (f k).k, .string (f k).nm, .int .i64 (f k).sz, .int .i64 (f k).en, .int .i64 (f k).fl, .int .i64 (f k).of, .int .i64 (f k).ix, .slice ma (f k).q mcap] 72)) := st.old.trans (hb5.mono st.old.size)
   have hm5 : (wr.alloc (.cells #[.int .i64 (f k).k, .string (f k).nm, .int .i64 (f k).sz, .int .i64 (f k).en, .int .i64 (f k).fl, .int .i64 (f k).of, .int .i64 (f k).ix, .slice ma (f k).q mcap] 72)).ownsRow 0 74 5 (.slice ma (f k).q mcap) (f k).q (f k).ys := ownsRow_of (hmv ▸ hfk.own) fun x _ hl => hw5.block x hl
   obtain ⟨c0, c1, c2, c3, c4, c5, c6, c7⟩ := hr5.eight
   have hk19 : 1 ≤ (f k).k ∧ (f k).k ≤ 19 := by have := hfk.kind; unfold KindOk at this; omega
   go_wp2_with fail
   refine (fits_any _ (f k).k (f k).nm (f k).sz (f k).en (f k).fl (f k).of (f k).ix _ (f k).q n cap g (f k).ys hn (Nat.lt_of_lt_of_le hgl hw5.size) (hks.old hgl hw5) hk19 hfk.hsz ⟨by rcases hfk.hen with h | h <;> omega, by rcases hfk.hen with h | h <;> omega⟩ ⟨by rcases hfk.hfl with h | h <;> omega, by rcases hfk.hfl with h | h <;> omega⟩ hfk.hof hfk.hix hm5 hfk.few hfk.mem).mono ?_
   rintro e w6 ⟨rfl, hb6⟩
   have st6 : B1 w n f w.heap.size w1.heap.size os pt ob k w6.drew := (st.new (hb5.trans (hb6.mono hb5.size))).new (Below.refl _ _).drew
   have hp6 : Blk w6.drew wr.heap.size #[.int .i64 (f k).k, .string (f k).nm, .int .i64 (f k).sz, .int .i64 (f k).en, .int .i64 (f k).fl, .int .i64 (f k).of, .int .i64 (f k).ix, .slice ma (f k).q mcap] 72 := (hr5.old hb6).drew
   have hv6 := st6.var
   obtain ⟨u0, hosk⟩ : ∃ u0, os[k]? = some u0 := ⟨_, List.getElem?_eq_getElem (by have := st.own.1; omega)⟩
   have hSof : ∀ w', Blk w' w1.heap.size #[.slice (some ⟨w.heap.size, 0, none⟩) n n] 78 → Blk w' wr.heap.size #[.int .i64 (f k).k, .string (f k).nm, .int .i64 (f k).sz, .int .i64 (f k).en, .int .i64 (f k).fl, .int .i64 (f k).of, .int .i64 (f k).ix, .slice ma (f k).q mcap] 72 → w'.cell? ⟨w1.heap.size, 0, none⟩ = some (.slice (some ⟨w.heap.size, 0, none⟩) n n) ∧ w'.cell? ⟨wr.heap.size, 0, none⟩ = some (.int .i64 (f k).k) ∧ w'.cell? ⟨wr.heap.size, 1, none⟩ = some (.string (f k).nm) ∧ w'.cell? ⟨wr.heap.size, 2, none⟩ = some (.int .i64 (f k).sz) ∧ w'.cell? ⟨wr.heap.size, 3, none⟩ = some (.int .i64 (f k).en) ∧ w'.cell? ⟨wr.heap.size, 4, none⟩ = some (.int .i64 (f k).fl) ∧ w'.cell? ⟨wr.heap.size, 5, none⟩ = some (.int .i64 (f k).of) ∧ w'.cell? ⟨wr.heap.size, 6, none⟩ = some (.int .i64 (f k).ix) ∧ w'.cell? ⟨wr.heap.size, 7, none⟩ = some (.slice ma (f k).q mcap) :=
    fun w' h1 h2 => ⟨h1.cell 0, h2.cell 0, h2.cell 1, h2.cell 2, h2.cell 3, h2.cell 4, h2.cell 5, h2.cell 6, h2.cell 7⟩
   clear c0 c1 c2 c3 c4 c5 c6 c7
   go_upto_region 7 with fail
   refine AnyBut.start (S := (fun w' => w'.cell? ⟨w1.heap.size, 0, none⟩ = some (.slice (some ⟨w.heap.size, 0, none⟩) n n) ∧ w'.cell? ⟨wr.heap.size, 0, none⟩ = some (.int .i64 (f k).k) ∧ w'.cell? ⟨wr.heap.size, 1, none⟩ = some (.string (f k).nm) ∧ w'.cell? ⟨wr.heap.size, 2, none⟩ = some (.int .i64 (f k).sz) ∧ w'.cell? ⟨wr.heap.size, 3, none⟩ = some (.int .i64 (f k).en) ∧ w'.cell? ⟨wr.heap.size, 4, none⟩ = some (.int .i64 (f k).fl) ∧ w'.cell? ⟨wr.heap.size, 5, none⟩ = some (.int .i64 (f k).of) ∧ w'.cell? ⟨wr.heap.size, 6, none⟩ = some (.int .i64 (f k).ix) ∧ w'.cell? ⟨wr.heap.size, 7, none⟩ = some (.slice ma (f k).q mcap))) (t := 5) (by as_aux_lemma => kernel_rfl) (hSof _ hv6 hp6) (fun hHeld => ?_)
   refine AnyBut.tk (i := 0) (v := ?_) rfl (by as_aux_lemma => kernel_rfl) (fun _ _ _ h => h) hHeld (by rfl) ?_ ?_
   rotate_left
   focus (intro w hSw; (try dsimp only at hSw); go_simp <;> with_reducible rfl)
   try simp only [Act.put, zl4, zl5, zl6]
   refine AnyBut.tk (i := 1) (v := ?_) rfl (by as_aux_lemma => kernel_rfl) (fun _ _ _ h => h) hHeld (by rfl) ?_ ?_
   rotate_left
   focus (intro w hSw; (try dsimp only at hSw); go_simp <;> with_reducible rfl)
   try simp only [Act.put, zl4, zl5, zl6]
   refine AnyBut.tk (i := 2) (v := ?_) rfl (by as_aux_lemma => kernel_rfl) (fun _ _ _ h => h) hHeld (by rfl) ?_ ?_
   rotate_left
   focus (intro w hSw; (try dsimp only at hSw); go_simp <;> with_reducible rfl)
   try simp only [Act.put, zl4, zl5, zl6]
   refine AnyBut.one (i := 3) (by as_aux_lemma => kernel_rfl) rfl (fun K hK => ?_)
   go_simp
   go_at_call 49
   refine (made_any _ (f k).k (f k).nm (f k).sz (f k).en (f k).fl (f k).of (f k).ix (.slice ma (f k).q mcap) hfk.kind hfk.hsz ⟨by rcases hfk.hen with h | h <;> omega, by rcases hfk.hen with h | h <;> omega⟩).mono ?_
   rintro e w9 ⟨b, p, cs, ty, rfl, hobj, hblk9, hblo, hb9⟩
   have hp9 := hp6.old hb9
   have hv9 := hv6.old hb9
   have hown9 : w9.ownsRow w.heap.size 77 1 (.slice (some ⟨w.heap.size, 0, none⟩) n n) n os := ownsRow_of (st6.own) fun x _ hl => hb9.block x hl
   have hcl9 := own_cell hown9 hosk
   have hfr9 := hown9.frozenAt k
   refine hK.out _ _ (hSof _ hv9 hp9) (fun hHeld => ?_)
   clear hK K
   try simp only [Act.put, zl4, zl5, zl6]
   refine AnyBut.tk (i := 4) (v := ?_) rfl (by as_aux_lemma => kernel_rfl) (fun _ _ _ h => h) hHeld (by rfl) ?_ ?_
   rotate_left
   focus (intro w hSw; (try dsimp only at hSw); go_simp <;> with_reducible rfl)
   try simp only [Act.put, zl4, zl5, zl6]
   refine AnyBut.last (by as_aux_lemma => kernel_rfl) rfl (by as_aux_lemma => kernel_rfl) (fun K hK => ?_)
   go_simp
   refine hK.out _ _ ?_
   clear hK K
   try simp only [Act.put, zl4, zl5, zl6]
   go_wp2_with fail
   go_roundg (n - (k + 1))
   case measure => omega
   case rel => exact ⟨k + 1, _, _, _, hlt, Nat.le_refl _, by go_num, st.push hlt ((hb5.trans (hb6.mono hb5.size)).trans ((Below.drew (Below.refl _ _)).trans (hb9.mono (Nat.le_trans hb5.size hb6.size)))) hobj hblk9 (Nat.le_trans (Nat.le_trans hb5.size hb6.size) hblo)⟩
  ·obtain rfl : k = n := by omega
   obtain ⟨wA, rfl⟩ : ∃ wA : World, wA = wr := ⟨_, rfl⟩
   have st0 := B2.start st
   go_wp2_with fail
   go_loopg [35] k (fun gk s35 w2 => ∃ k2, k2 ≤ k ∧ k - k2 ≤ gk ∧ s35 = .int .i64 (k2 : Nat) ∧ B2 w k f w.heap.size w1.heap.size wA.heap.size os pt ob k2 w2)
   case atStart => exact ⟨0, Nat.zero_le _, Nat.le_refl _, rfl, st0⟩
   case round =>
    obtain ⟨k2, hk2, hgk2, rfl, st2⟩ := hrel
    obtain ⟨w2, rfl⟩ : ∃ w2 : World, w2 = wr := ⟨_, rfl⟩
    by_cases hlt2 : k2 < k
    ·have hfk := hf k2 hlt2
     have hor := ownsRow_of ho fun x _ hl => st2.old.block x hl
     obtain ⟨q0, q1, q2, q3, q4, q5, q6, q7⟩ := lrow_cells hor hfk.row
     obtain ⟨ma, mcap, hmv⟩ := own_slice hfk.own
     rw [hmv] at q7
     have hgl3 : g < w2.heap.size := Nat.lt_of_lt_of_le hgl st2.old.size
     have hocl3 : w1.heap.size < w2.heap.size := st2.var.lt
     go_upto_region 13 with fail
     have hb5 : Below w2.heap.size w2 (w2.alloc (.cells #[.int .i64 (f k2).k, .string (f k2).nm, .int .i64 (f k2).sz, .int .i64 (f k2).en, .int .i64 (f k2).fl, .int .i64 (f k2).of, .int .i64 (f k2).ix, .slice ma (f k2).q mcap] 72)).drew := ((Below.refl _ _).alloc (Nat.le_refl _) _).drew
     have hp6 : Blk (w2.alloc (.cells #[.int .i64 (f k2).k, .string (f k2).nm, .int .i64 (f k2).sz, .int .i64 (f k2).en, .int .i64 (f k2).fl, .int .i64 (f k2).of, .int .i64 (f k2).ix, .slice ma (f k2).q mcap] 72)).drew w2.heap.size #[.int .i64 (f k2).k, .string (f k2).nm, .int .i64 (f k2).sz, .int .i64 (f k2).en, .int .i64 (f k2).fl, .int .i64 (f k2).of, .int .i64 (f k2).ix, .slice ma (f k2).q mcap] 72 := (Blk.new _ _ _).drew
     have st6 := st2.new hb5
     have hw5 : Below w.heap.size w (w2.alloc (.cells #[.int .i64 (f k2).k, .string (f k2).nm, .int .i64 (f k2).sz, .int .i64 (f k2).en, .int .i64 (f k2).fl, .int .i64 (f k2).of, .int .i64 (f k2).ix, .slice ma (f k2).q mcap] 72)).drew := st6.old
     have hm6 : (w2.alloc (.cells #[.int .i64 (f k2).k, .string (f k2).nm, .int .i64 (f k2).sz, .int .i64 (f k2).en, .int .i64 (f k2).fl, .int .i64 (f k2).of, .int .i64 (f k2).ix, .slice ma (f k2).q mcap] 72)).drew.ownsRow 0 74 5 (.slice ma (f k2).q mcap) (f k2).q (f k2).ys := ownsRow_of (hmv ▸ hfk.own) fun x _ hl => hw5.block x hl
     have hv6 := st6.var
     have hog6 := own_cell st6.own (st6.has k2 hlt2)
     obtain ⟨cs6, ty6, hobj6, hblk6⟩ := st6.obj k2 (Nat.le_refl _) hlt2
     have hSof : ∀ w', Blk w' w1.heap.size #[.slice (some ⟨w.heap.size, 0, none⟩) k k] 78 → w'.cell? ⟨w.heap.size, k2, none⟩ = some (.iface (pt (k2 + 1)) (.pointer (some ⟨ob (k2 + 1), 0, none⟩))) → Blk w' w2.heap.size #[.int .i64 (f k2).k, .string (f k2).nm, .int .i64 (f k2).sz, .int .i64 (f k2).en, .int .i64 (f k2).fl, .int .i64 (f k2).of, .int .i64 (f k2).ix, .slice ma (f k2).q mcap] 72 → w'.cell? ⟨w1.heap.size, 0, none⟩ = some (.slice (some ⟨w.heap.size, 0, none⟩) k k) ∧ w'.cell? ⟨w.heap.size, k2, none⟩ = some (.iface (pt (k2 + 1)) (.pointer (some ⟨ob (k2 + 1), 0, none⟩))) ∧ w'.cell? ⟨w2.heap.size, 0, none⟩ = some (.int .i64 (f k2).k) ∧ w'.cell? ⟨w2.heap.size, 1, none⟩ = some (.string (f k2).nm) ∧ w'.cell? ⟨w2.heap.size, 2, none⟩ = some (.int .i64 (f k2).sz) ∧ w'.cell? ⟨w2.heap.size, 3, none⟩ = some (.int .i64 (f k2).en) ∧ w'.cell? ⟨w2.heap.size, 4, none⟩ = some (.int .i64 (f k2).fl) ∧ w'.cell? ⟨w2.heap.size, 5, none⟩ = some (.int .i64 (f k2).of) ∧ w'.cell? ⟨w2.heap.size, 6, none⟩ = some (.int .i64 (f k2).ix) ∧ w'.cell? ⟨w2.heap.size, 7, none⟩ = some (.slice ma (f k2).q mcap) :=
      fun w' h1 h0 h2 => ⟨h1.cell 0, h0, h2.cell 0, h2.cell 1, h2.cell 2, h2.cell 3, h2.cell 4, h2.cell 5, h2.cell 6, h2.cell 7⟩
     refine AnyBut.start (S := (fun w' => w'.cell? ⟨w1.heap.size, 0, none⟩ = some (.slice (some ⟨w.heap.size, 0, none⟩) k k) ∧ w'.cell? ⟨w.heap.size, k2, none⟩ = some (.iface (pt (k2 + 1)) (.pointer (some ⟨ob (k2 + 1), 0, none⟩))) ∧ w'.cell? ⟨w2.heap.size, 0, none⟩ = some (.int .i64 (f k2).k) ∧ w'.cell? ⟨w2.heap.size, 1, none⟩ = some (.string (f k2).nm) ∧ w'.cell? ⟨w2.heap.size, 2, none⟩ = some (.int .i64 (f k2).sz) ∧ w'.cell? ⟨w2.heap.size, 3, none⟩ = some (.int .i64 (f k2).en) ∧ w'.cell? ⟨w2.heap.size, 4, none⟩ = some (.int .i64 (f k2).fl) ∧ w'.cell? ⟨w2.heap.size, 5, none⟩ = some (.int .i64 (f k2).of) ∧ w'.cell? ⟨w2.heap.size, 6, none⟩ = some (.int .i64 (f k2).ix) ∧ w'.cell? ⟨w2.heap.size, 7, none⟩ = some (.slice ma (f k2).q mcap))) (t := 6) (by as_aux_lemma => kernel_rfl) (hSof _ hv6 hog6 hp6) (fun hHeld => ?_)
     refine AnyBut.tk (i := 0) (v := ?_) rfl (by as_aux_lemma => kernel_rfl) (fun _ _ _ h => h) hHeld (by rfl) ?_ ?_
     rotate_left
     focus (intro w hSw; (try dsimp only at hSw); go_simp <;> with_reducible rfl)
     try simp only [Act.put, zl4, zl5, zl6]
     refine AnyBut.tk (i := 1) (v := ?_) rfl (by as_aux_lemma => kernel_rfl) (fun _ _ _ h => h) hHeld (by rfl) ?_ ?_
     rotate_left
     focus (intro w hSw; (try dsimp only at hSw); go_simp <;> with_reducible rfl)
     try simp only [Act.put, zl4, zl5, zl6]
     refine AnyBut.tk (i := 2) (v := ?_) rfl (by as_aux_lemma => kernel_rfl) (fun _ _ _ h => h) hHeld (by rfl) ?_ ?_
     rotate_left
     focus (intro w hSw; (try dsimp only at hSw); go_simp <;> with_reducible rfl)
     try simp only [Act.put, zl4, zl5, zl6]
     refine AnyBut.tk (i := 3) (v := ?_) rfl (by as_aux_lemma => kernel_rfl) (fun _ _ _ h => h) hHeld (by rfl) ?_ ?_
     rotate_left
     focus (intro w hSw; (try dsimp only at hSw); go_simp <;> with_reducible rfl)
     try simp only [Act.put, zl4, zl5, zl6]
     refine AnyBut.tk (i := 4) (v := ?_) rfl (by as_aux_lemma => kernel_rfl) (fun _ _ _ h => h) hHeld (by rfl) ?_ ?_
     rotate_left
     focus (intro w hSw; (try dsimp only at hSw); go_simp <;> with_reducible rfl)
     try simp only [Act.put, zl4, zl5, zl6]
     refine AnyBut.tk (i := 5) (v := ?_) rfl (by as_aux_lemma => kernel_rfl) (fun _ _ _ h => h) hHeld (by rfl) ?_ ?_
     rotate_left
     focus (intro w hSw; (try dsimp only at hSw); go_simp <;> with_reducible rfl)
     try simp only [Act.put, zl4, zl5, zl6]
     refine AnyBut.last (by as_aux_lemma => kernel_rfl) rfl (by as_aux_lemma => kernel_rfl) (fun K hK => ?_)
     go_simp
     go_at_call 51
     refine (fill_all _ (f k2).k (f k2).nm (f k2).sz (f k2).en (f k2).fl (f k2).of (f k2).ix (.slice ma (f k2).q mcap) (f k2).q k k w.heap.size w1.heap.size (ob (k2 + 1)) wA.heap.size (f k2).ys pt ob st6.at_ hn st6.lo.1 hfk hobj6 hblk6 (st6.far k2 hlt2).2.2 hm6 (fun x => by have := (hmv ▸ hfk.own).lt _ x; have := (st6.far k2 hlt2).1; omega)).mono ?_
     rintro e w9 ⟨rfl, hfp⟩
     refine hK.out _ _ ?_
     clear hK K
     go_wp2_with fail
     go_roundg (k - (k2 + 1))
     case measure => omega
     case rel => exact ⟨k2 + 1, hlt2, Nat.le_refl _, by go_num, st6.push hlt2 hobj6 hfp⟩
    ·obtain rfl : k2 = k := by omega
     go_wp2_with fail
     go_loopg [50] k2 (fun gk s50 w3 => ∃ k3, k3 ≤ k2 ∧ k2 - k3 ≤ gk ∧ s50 = .int .i64 (k3 : Nat) ∧ B2 w k2 f w.heap.size w1.heap.size wA.heap.size os pt ob k2 w3)
     case atStart => exact ⟨0, Nat.zero_le _, Nat.le_refl _, rfl, st2⟩
     case round =>
      obtain ⟨k3, hk3, hgk3, rfl, st3⟩ := hrel
      obtain ⟨w3, rfl⟩ : ∃ w3 : World, w3 = wr := ⟨_, rfl⟩
      by_cases hlt3 : k3 < k2
      ·have hfk := hf k3 hlt3
       have hor := ownsRow_of ho fun x _ hl => st3.old.block x hl
       obtain ⟨q0, q1, q2, q3, q4, q5, q6, q7⟩ := lrow_cells hor hfk.row
       obtain ⟨ma, mcap, hmv⟩ := own_slice hfk.own
       rw [hmv] at q7
       have hgl4 : g < w3.heap.size := Nat.lt_of_lt_of_le hgl st3.old.size
       have h17 : ((f k3).k == 17) = false := by have := hfk.kind; unfold KindOk at this; simp; omega
       go_upto_region 18 with fail
       go_quiet (fail)
       go_wp2_with fail
       go_roundg (k2 - (k3 + 1))
       case measure => omega
       case rel => exact ⟨k3 + 1, hlt3, Nat.le_refl _, by go_num, st3.new (below_drewN ((Below.refl _ _).alloc (Nat.le_refl _) _) _)⟩
      ·have hv3 := st3.var.cell 0
       simp only [List.getElem?_toArray, List.getElem?_cons_zero] at hv3
       go_wp2_with fail
       go_ret2
       exact ⟨_, _, _, os, pt, ob, rfl, st3⟩
end Go.Proofs.YtfilbgmbmlmdbaaGreatDoor
