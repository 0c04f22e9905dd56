/- What the rows of a list say of the type that was listed. Nothing is claimed here. -/
import Derived.Test.YtfilbgmbmlmdbaaGreatDoorListD
import Derived.Test.YtfilbgmbmlmdbaaGreatDoorImplG
namespace Go.Proofs.YtfilbgmbmlmdbaaGreatDoor
open Go.RowKit

/-- Row i says the type t. -/
inductive RT (f : Nat → RowD) : Nat → Ty → Prop
  | int {i sz : Nat} {sg : Bool} {nm : ByteArray} (hk : (f i).k = 1) (hn : (f i).nm = nm) (hs : (f i).sz = (sz : Int)) (he : (f i).en = if sg then 1 else 0) : RT f i (.int sz sg nm)
  | ptr {i j : Nat} {t : Ty} (hk : (f i).k = 2) (ho : (f i).of = j + 1) (r : RT f j t) : RT f i (.ptr t)
  | arr {i j x n : Nat} {t : Ty} (hk : (f i).k = 3) (hs : (f i).sz = (n : Int)) (ho : (f i).of = j + 1) (hx : (f i).ix = x + 1) (rx : (f x).k = 1) (r : RT f j t) : RT f i (.arr n t)
  | named {i j : Nat} {nm : ByteArray} {t : Ty} (hk : (f i).k = 8) (hn : (f i).nm = nm) (ho : (f i).of = j + 1) (r : RT f j t) : RT f i (.named nm t)
  | cst {i j : Nat} {t : Ty} (hk : (f i).k = 10) (ho : (f i).of = j + 1) (r : RT f j t) : RT f i (.cst t)
  | enm {i n : Nat} {nm : ByteArray} {sg : Bool} {vn : Nat → ByteArray} {vv : Nat → Int} (hk : (f i).k = 6) (hn : (f i).nm = nm) (hs : (f i).sz = 4) (hl : (f i).fl = if sg then 1 else 0) (hq : (f i).q = n)
      (hr : ∀ j, j < n → PRow (f i).ys j (vn j) (.int .i64 0) 0 0 (vv j)) : RT f i (.enm nm sg n vn vv)
  | comp {i sz n : Nat} {un : Bool} {nm : ByteArray} {pn : Nat → ByteArray} {py : Nat → Ty} {pa pb : Nat → Nat} {pc : Nat → Nat} (hk : (f i).k = if un then 5 else 4) (hn : (f i).nm = nm) (hs : (f i).sz = (sz : Int)) (hq : (f i).q = n)
      (hr : ∀ j, j < n → PRow (f i).ys j (pn j) (.int .i64 ((pc j + 1 : Nat) : Int)) (pa j) (pb j) 0) (r : ∀ j, j < n → RT f (pc j) (py j)) : RT f i (.comp un nm sz n pn py pa pb)

theorem LRow.uniq {xs : List Value} {i : Nat} {k k' : Int} {nm nm' : ByteArray} {sz en fl of ix sz' en' fl' of' ix' : Int} {mv mv' : Value} (h : LRow xs i k nm sz en fl of ix mv) (h' : LRow xs i k' nm' sz' en' fl' of' ix' mv') :
    k = k' ∧ nm = nm' ∧ sz = sz' ∧ en = en' ∧ fl = fl' ∧ of = of' ∧ ix = ix' ∧ mv = mv' := by
  obtain ⟨a0, a1, a2, a3, a4, a5, a6, a7⟩ := h
  obtain ⟨b0, b1, b2, b3, b4, b5, b6, b7⟩ := h'
  rw [a0] at b0; rw [a1] at b1; rw [a2] at b2; rw [a3] at b3; rw [a4] at b4; rw [a5] at b5; rw [a6] at b6; rw [a7] at b7
  cases b0; cases b1; cases b2; cases b3; cases b4; cases b5; cases b6; cases b7
  exact ⟨rfl, rfl, rfl, rfl, rfl, rfl, rfl, rfl⟩
theorem own_uniq {w : World} {base base' e size n n' : Nat} {v : Value} {xs xs' : List Value} (h : w.ownsRow base e size v n xs) (h' : w.ownsRow base' e size v n' xs') : n = n' ∧ xs = xs' := by
  obtain ⟨l, h⟩ := h
  obtain ⟨l', h'⟩ := h'
  rcases h with ⟨rfl, rfl⟩ | ⟨g, cap, cur, rfl, _, h1, _, _, _, h2⟩
  · rcases h' with ⟨_, rfl⟩ | ⟨g', cap', cur', e', _⟩
    · refine ⟨rfl, ?_⟩
      have a : xs = [] := List.eq_nil_of_length_eq_zero (by omega)
      have b : xs' = [] := List.eq_nil_of_length_eq_zero (by omega)
      rw [a, b]
    · cases e'
  · rcases h' with ⟨e', _⟩ | ⟨g', cap', cur', e', _, h3, _, _, _, h4⟩
    · cases e'
    · cases e'
      rw [h1] at h3
      cases h3
      exact ⟨rfl, by rw [← h2, ← h4]⟩

set_option maxHeartbeats 1000000 in
theorem LSt.rt {W w : World} {lb mb : Nat} {ixv : Value} {hb n : Nat} {X D : Nat → Prop} {v : Value} {xs : List Value} {m : Value → Option Value} {f : Nat → RowD} (st : LSt W lb mb ixv hb X n v xs m (fun _ => False) w) (hf : ∀ i, i < n → FitsD w D xs n i (f i))
    (hix : ∃ ib sz sg nm, ixv = .pointer (some ⟨ib, 0, none⟩) ∧ Rep W (Ex lb mb hb) ib (.int sz sg nm)) {b : Nat} {t : Ty} (r : Rep W (Ex lb mb hb) b t) :
    ∀ i : Nat, m (.pointer (some ⟨b, 0, none⟩)) = some (.int .i64 ((i + 1 : Nat) : Int)) → i < n ∧ RT f i t := by
  have hrow : ∀ b i, m (.pointer (some ⟨b, 0, none⟩)) = some (.int .i64 ((i + 1 : Nat) : Int)) → i < n ∧ RowOk W w (fun g => Wr lb mb v g ∨ X g) xs m ixv b i := fun b i hmb => by
    obtain ⟨b', i', t', e1, e2, hi, _, _, hro⟩ := st.key _ _ hmb
    simp only [Value.pointer.injEq, Option.some.injEq, Addr.mk.injEq, and_true] at e1
    simp only [Value.int.injEq, true_and] at e2
    obtain rfl : i' = i := by omega
    subst e1
    rcases hro with hro | hro
    · exact hro.elim
    · exact ⟨hi, hro⟩
  have hnum : ∀ x (z : Nat), m x = some (.int .i64 (z : Int)) → ∃ j, z = j + 1 := fun x z hx => by
    obtain ⟨_, j, _, _, h2, _, _⟩ := st.key x _ hx
    simp only [Value.int.injEq, true_and] at h2
    exact ⟨j, by omega⟩
  have hone : ∀ b i sz sg nm, Rep W (Ex lb mb hb) b (.int sz sg nm) → m (.pointer (some ⟨b, 0, none⟩)) = some (.int .i64 ((i + 1 : Nat) : Int)) → (f i).k = 1 := fun b i sz sg nm r hmb => by
    obtain ⟨hi, hro⟩ := hrow b i hmb
    cases r with
    | int h' _ =>
      have h1 := hro.kind h'
      have h2 := (hf i hi).row.1
      rw [h1] at h2
      simp only [Option.some.injEq, Value.int.injEq, true_and] at h2
      exact h2.symm
  induction r with
  | @int b sz sg nm h' hd =>
    intro i hmb
    obtain ⟨hi, hro⟩ := hrow b i hmb
    refine ⟨hi, ?_⟩
    cases hro with
    | int h l =>
      obtain ⟨_, e1, e2, e3, _, _⟩ := h.inj6 h'
      obtain ⟨u1, u2, u3, u4, _⟩ := (hf i hi).row.uniq l
      simp only [Value.int.injEq, Value.string.injEq, Value.bool.injEq, true_and] at e1 e2 e3
      exact .int u1 (u2.trans e1) (u3.trans e2) (by rw [u4, e3])
    | of hk h hm l => have := (h.inj6 h').1; simp at this; omega
    | arr h hm hx l => have := (h.inj6 h').1; simp at this
    | enm h hp ho hv hr l => have := (h.inj6 h').1; simp at this
    | comp hk h hp ho hv hr l => have := (h.inj6 h').1; simp at this; omega
  | @ptr b c t h' hd rc ih =>
    intro i hmb
    obtain ⟨hi, hro⟩ := hrow b i hmb
    refine ⟨hi, ?_⟩
    cases hro with
    | int h l => have := (h.inj6 h').1; simp at this
    | @of k nm' sz sg o pv z hk h hm l =>
      obtain ⟨e0, e1, _, _, e4, _⟩ := h.inj6 h'
      simp only [Value.int.injEq, Value.string.injEq, true_and] at e0 e1
      subst e0 e4
      obtain ⟨j, rfl⟩ := hnum _ _ hm
      obtain ⟨u1, u2, _, _, _, u6, _⟩ := (hf i hi).row.uniq l
      exact .ptr u1 (by omega) (ih j hm).2
    | arr h hm hx l => have := (h.inj6 h').1; simp at this
    | enm h hp ho hv hr l => have := (h.inj6 h').1; simp at this
    | comp hk h hp ho hv hr l => have := (h.inj6 h').1; simp at this; omega
  | @arr b c n' t h' hd rc ih =>
    intro i hmb
    obtain ⟨hi, hro⟩ := hrow b i hmb
    refine ⟨hi, ?_⟩
    cases hro with
    | int h l => have := (h.inj6 h').1; simp at this
    | of hk h hm l => have := (h.inj6 h').1; simp at this; omega
    | @arr nm' sz sg o pv z zx h hm hx l =>
      obtain ⟨_, _, e2, _, e4, _⟩ := h.inj6 h'
      simp only [Value.int.injEq, true_and] at e2
      subst e4
      obtain ⟨j, rfl⟩ := hnum _ _ hm
      obtain ⟨x, rfl⟩ := hnum _ _ hx
      obtain ⟨u1, u2, u3, _, _, u6, u7, _⟩ := (hf i hi).row.uniq l
      obtain ⟨ib, sz', sg', nm2, rfl, rix⟩ := hix
      exact .arr u1 (u3.trans e2) (by omega) (by omega) (hone _ _ _ _ _ rix hx) (ih j hm).2
    | enm h hp ho hv hr l => have := (h.inj6 h').1; simp at this
    | comp hk h hp ho hv hr l => have := (h.inj6 h').1; simp at this; omega
  | @named b c nm t h' hd rc ih =>
    intro i hmb
    obtain ⟨hi, hro⟩ := hrow b i hmb
    refine ⟨hi, ?_⟩
    cases hro with
    | int h l => have := (h.inj6 h').1; simp at this
    | @of k nm' sz sg o pv z hk h hm l =>
      obtain ⟨e0, e1, _, _, e4, _⟩ := h.inj6 h'
      simp only [Value.int.injEq, Value.string.injEq, true_and] at e0 e1
      subst e0 e4
      obtain ⟨j, rfl⟩ := hnum _ _ hm
      obtain ⟨u1, u2, _, _, _, u6, _⟩ := (hf i hi).row.uniq l
      exact .named u1 (u2.trans e1) (by omega) (ih j hm).2
    | arr h hm hx l => have := (h.inj6 h').1; simp at this
    | enm h hp ho hv hr l => have := (h.inj6 h').1; simp at this
    | comp hk h hp ho hv hr l => have := (h.inj6 h').1; simp at this; omega
  | @cst b c t h' hd rc ih =>
    intro i hmb
    obtain ⟨hi, hro⟩ := hrow b i hmb
    refine ⟨hi, ?_⟩
    cases hro with
    | int h l => have := (h.inj6 h').1; simp at this
    | @of k nm' sz sg o pv z hk h hm l =>
      obtain ⟨e0, e1, _, _, e4, _⟩ := h.inj6 h'
      simp only [Value.int.injEq, Value.string.injEq, true_and] at e0 e1
      subst e0 e4
      obtain ⟨j, rfl⟩ := hnum _ _ hm
      obtain ⟨u1, u2, _, _, _, u6, _⟩ := (hf i hi).row.uniq l
      exact .cst u1 (by omega) (ih j hm).2
    | arr h hm hx l => have := (h.inj6 h').1; simp at this
    | enm h hp ho hv hr l => have := (h.inj6 h').1; simp at this
    | comp hk h hp ho hv hr l => have := (h.inj6 h').1; simp at this; omega
  | @enm b n' nm sg vn vv v' xs' h' hd ho' hv' hr' =>
    intro i hmb
    obtain ⟨hi, hro⟩ := hrow b i hmb
    refine ⟨hi, ?_⟩
    cases hro with
    | int h l => have := (h.inj6 h').1; simp at this
    | of hk h hm l => have := (h.inj6 h').1; simp at this; omega
    | arr h hm hx l => have := (h.inj6 h').1; simp at this
    | @enm nm2 sz sg2 o pv mv q ys h hp ho hv hr l =>
      obtain ⟨_, e1, e2, e3, _, e5⟩ := h.inj6 h'
      simp only [Value.int.injEq, Value.string.injEq, Value.bool.injEq, true_and] at e1 e2 e3
      obtain ⟨u1, u2, u3, _, u5, _, _, u8⟩ := (hf i hi).row.uniq l
      obtain ⟨_, _, rfl⟩ := hp
      obtain ⟨_, _, e6⟩ := own_slice ho'
      have e7 := e5
      rw [e6] at e7
      simp only [Value.slice.injEq] at e7
      obtain rfl : q = n' := e7.2.1
      have hown := (hf i hi).own
      rw [u8] at hown
      obtain ⟨eq, ey⟩ := own_uniq hown ho
      refine .enm u1 (u2.trans e1) (u3.trans e2) (by rw [u5, e3]) eq fun j hj => ?_
      obtain ⟨pn, po, pa, pb, pv', hpt, hpr⟩ := hr j hj
      have hp2 := PartAt.of ho' (hr' j hj) hj
      rw [← e5] at hp2
      obtain ⟨ea, _, _, _, ee⟩ := hpt.uniq hp2
      rw [ey, ← ea, ← ee]
      exact hpr
    | comp hk h hp ho hv hr l => have := (h.inj6 h').1; simp at this; omega
  | @comp b sz n' un nm pn py pa pb v' xs' pc h' hd ho' hv' hr' hc ih =>
    intro i hmb
    obtain ⟨hi, hro⟩ := hrow b i hmb
    refine ⟨hi, ?_⟩
    cases hro with
    | int h l => have := (h.inj6 h').1; cases un <;> simp at this
    | of hk h hm l => have := (h.inj6 h').1; cases un <;> simp at this <;> omega
    | arr h hm hx l => have := (h.inj6 h').1; cases un <;> simp at this
    | enm h hp ho hv hr l => have := (h.inj6 h').1; cases un <;> simp at this
    | @comp k nm2 sz2 sg2 o pv mv q ys hk h hp ho hv hr l =>
      obtain ⟨e0, e1, e2, _, _, e5⟩ := h.inj6 h'
      simp only [Value.int.injEq, Value.string.injEq, true_and] at e0 e1 e2
      obtain ⟨u1, u2, u3, _, _, _, _, u8⟩ := (hf i hi).row.uniq l
      obtain ⟨_, _, rfl⟩ := hp
      obtain ⟨_, _, e6⟩ := own_slice ho'
      have e7 := e5
      rw [e6] at e7
      simp only [Value.slice.injEq] at e7
      obtain rfl : q = n' := e7.2.1
      have hown := (hf i hi).own
      rw [u8] at hown
      obtain ⟨eq, ey⟩ := own_uniq hown ho
      have hpart : ∀ j, ∃ z : Nat, j < q → PRow (f i).ys j (pn j) (.int .i64 ((z + 1 : Nat) : Int)) (pa j) (pb j) 0 ∧ m (.pointer (some ⟨pc j, 0, none⟩)) = some (.int .i64 ((z + 1 : Nat) : Int)) := fun j => by
        by_cases hj : j < q
        · obtain ⟨qn, qo, qa, qb, qv, z, hpt, hmz, hpr⟩ := hr j hj
          have hp2 := PartAt.of ho' (hr' j hj) hj
          rw [← e5] at hp2
          obtain ⟨ea, eb, ec, ed, _⟩ := hpt.uniq hp2
          obtain ⟨z', rfl⟩ := hnum _ _ hmz
          subst ea eb ec ed
          exact ⟨z', fun _ => ⟨by rw [ey]; exact hpr, hmz⟩⟩
        · exact ⟨0, fun h => absurd h hj⟩
      obtain ⟨pz, hpz⟩ := Classical.axiomOfChoice hpart
      exact .comp (u1.trans e0) (u2.trans e1) (u3.trans e2) eq (fun j hj => (hpz j hj).1) (fun j hj => (ih j hj (pz j) (hpz j hj).2).2)

/-- What listed leaves, and what its rows say. -/
def ListedT (W : World) (t : Ty) (c : Nat) (e : Ending) (w' : World) : Prop :=
  ∃ (v : Value) (n i : Nat) (xs : List Value) (D : Nat → Prop) (f : Nat → RowD), e = .returned (.tuple #[v, .int .i64 ((i + 1 : Nat) : Int)]) ∧ Rows w' v n xs D ∧ (∀ i, i < n → FitsD w' D xs n i (f i)) ∧ RT f i t ∧ i < n ∧ n ≤ c ∧ Below W.heap.size W w'

set_option maxRecDepth 100000 in
set_option maxHeartbeats 4000000 in
theorem listedT_of (put_any : ∀ t, PutC t) (b : Nat) (t : Ty) (w : World) (r : Rep w Nowhere b t) (hg : Good t) (hc : t.cnt ≤ 1000000) :
    Calls Tryz.prog 14 #[.pointer (some ⟨b, 0, none⟩)] w (ListedT w t t.cnt) := by
  have hmm := @run_makeMap Tryz.prog
  go_enter Tryz.func14, Tryz.ntmps14
  go_wp2_with fail
  refine (indexType_any _).mono ?_
  rintro e w1 ⟨rfl, rfl⟩
  go_wp2_with fail
  change Calls _ _ _ (listedW w) _
  obtain ⟨hbw, hsz, b0, b1, b2, b3, b4, b5, b6⟩ := listedW_blocks w
  have hex : ∀ g, ¬ Ex (w.heap.size + 1) (w.heap.size + 1 + 1) w.heap.size g ↔ g ≠ w.heap.size + 1 ∧ g ≠ w.heap.size + 1 + 1 ∧ g ≠ w.heap.size := fun g => by unfold Ex; omega
  have henv : Env (listedW w) (w.heap.size + 1 + 1 + 1) (w.heap.size + 1) (w.heap.size + 1 + 1 + 1 + 1 + 1 + 1) (w.heap.size + 1 + 1 + 1 + 1 + 1) (w.heap.size + 1 + 1) (w.heap.size + 1 + 1 + 1 + 1) w.heap.size (listedW w) :=
    ⟨b3, b6, b5, ⟨by omega, by omega, by omega⟩, (hex _).2 (by omega), (hex _).2 (by omega), (hex _).2 (by omega)⟩
  have hr : Rep (listedW w) (Ex (w.heap.size + 1) (w.heap.size + 1 + 1) w.heap.size) b t := r.keep (fun k hk _ => hbw.block k hk) (fun k hk hx => by unfold Ex at hx; omega)
  have rix : Rep (listedW w) (Ex (w.heap.size + 1) (w.heap.size + 1 + 1) w.heap.size) (w.heap.size + 1 + 1 + 1 + 1) (.int 4 false ⟨#[117, 52]⟩) := .int b4 ((hex _).2 (by omega))
  refine (put_any t (listedW w) _ _ _ _ _ _ _ b (fun _ => False) 0 _ [] (fun _ => none) (fun _ => False) (listedW w) henv (LSt.start _ b1 b2 b0 (by omega) (by omega) (by omega)) hr hg (.int b4 ((hex _).2 (by omega))) (by omega)).mono ?_
  rintro e w' ⟨i, n', v', xs', m', rfl, st, hi, -, hn', -, -, hmi, -, -⟩
  have l0 := st.lst.cell 0
  simp only [List.getElem?_toArray, List.getElem?_cons_zero] at l0
  have rows : Rows w' v' n' xs' (Wr (w.heap.size + 1) (w.heap.size + 1 + 1) v') := ⟨st.own, fun g hg => .inr (.inr hg), fun i hi => st.fits i hi⟩
  obtain ⟨f, hf⟩ := rows.data
  have hrt := (st.rt hf ⟨_, _, _, _, rfl, rix⟩ hr i hmi).2
  have ho := st.old
  have hbel : Below w.heap.size w w' := ⟨ho.os.trans hbw.os, ho.tape.trans hbw.tape, ho.output.trans hbw.output, Nat.le_trans hbw.size ho.size, fun k hk => (ho.block k (by omega) ((hex _).2 (by omega))).trans (hbw.block k hk)⟩
  have Hf := Lib.hid hf
  have Hrt := Lib.hid hrt
  have Hbel := Lib.hid hbel
  clear hf hrt hbel
  go_wp2_with fail
  go_ret2
  exact ⟨v', n', i, xs', _, f, rfl, rows, Hf.out, Hrt.out, hi, by omega, Hbel.out⟩
#print axioms listedT_of
end Go.Proofs.YtfilbgmbmlmdbaaGreatDoor
