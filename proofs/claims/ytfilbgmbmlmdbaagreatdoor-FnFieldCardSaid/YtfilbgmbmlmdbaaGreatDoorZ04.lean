/- The list of a type's types: words and plain lemmas for the walk of listed. Nothing is claimed here. -/
import Derived.Test.YtfilbgmbmlmdbaaGreatDoorZ03
import Derived.Test.YtfilbgmbmlmdbaaGreatDoorZ01
import Derived.Deep.MidRow
set_option linter.unusedSimpArgs false
set_option linter.unusedVariables false
set_option maxRecDepth 1000000
set_option maxHeartbeats 16000000
namespace Go.Proofs.YtfilbgmbmlmdbaaGreatDoor
open Go.RowKit
def sumTo (f : Nat → Nat) : Nat → Nat
 | 0 => 0
 | n + 1 => sumTo f n + f n
def Ty.cnt : Ty → Nat
 | .int .. => 1
 | .ptr t => t.cnt + 1
 | .arr _ t => t.cnt + 2
 | .named _ t => t.cnt + 1
 | .cst t => t.cnt + 1
 | .enm .. => 1
 | .comp _ _ _ n _ py _ _ => sumTo (fun i => (py i).cnt) n + 1
theorem sumTo_mono (f : Nat → Nat) {i n : Nat} (h : i ≤ n) : sumTo f i ≤ sumTo f n := by
 induction n with
 | zero =>
  obtain rfl : i = 0 := by omega
  exact Nat.le_refl _
 | succ n ih =>
  by_cases h2 : i = n + 1
  ·subst h2; exact Nat.le_refl _
  ·exact Nat.le_trans (ih (by omega)) (Nat.le_add_right _ _)
theorem sumTo_le (f : Nat → Nat) (n M : Nat) (h : ∀ i, i < n → f i ≤ M) : sumTo f n ≤ n * M := by
 induction n with
 | zero => simp [sumTo]
 | succ n ih =>
  have h1 := ih fun i hi => h i (by omega)
  have h2 := h n (by omega)
  rw [Nat.succ_mul]
  exact Nat.add_le_add h1 h2
inductive Good : Ty → Prop
 | int {sz : Nat} {sg : Bool} {nm : ByteArray} (h : sz ≤ 8) : Good (.int sz sg nm)
 | ptr {t : Ty} (h : Good t) : Good (.ptr t)
 | arr {n : Nat} {t : Ty} (hn : n < 4294967296) (h : Good t) : Good (.arr n t)
 | named {nm : ByteArray} {t : Ty} (hi : ∃ sz sg im, t = .int sz sg im) (h : Good t) : Good (.named nm t)
 | cst {t : Ty} (hi : ∃ sz sg im, t = .int sz sg im) (h : Good t) : Good (.cst t)
 | enm {nm : ByteArray} {sg : Bool} {n : Nat} {vn : Nat → ByteArray} {vv : Nat → Int} (hn : n ≤ 1000) : Good (.enm nm sg n vn vv)
 | comp {un : Bool} {nm : ByteArray} {sz n : Nat} {pn : Nat → ByteArray} {py : Nat → Ty} {pa pb : Nat → Nat} (hs : sz < 4294967296) (hn : n ≤ 1000)
   (ha : ∀ i, i < n → pa i < 4294967296 ∧ pb i < 4294967296) (h : ∀ i, i < n → Good (py i)) : Good (.comp un nm sz n pn py pa pb)
def LRow (xs : List Value) (i : Nat) (k : Int) (nm : ByteArray) (sz en fl of ix : Int) (mv : Value) : Prop :=
 xs[8 * i]? = some (.int .i64 k) ∧ xs[8 * i + 1]? = some (.string nm) ∧ xs[8 * i + 2]? = some (.int .i64 sz) ∧ xs[8 * i + 3]? = some (.int .i64 en) ∧
 xs[8 * i + 4]? = some (.int .i64 fl) ∧ xs[8 * i + 5]? = some (.int .i64 of) ∧ xs[8 * i + 6]? = some (.int .i64 ix) ∧ xs[8 * i + 7]? = some mv
theorem LRow.same {xs xs' : List Value} {i : Nat} {k : Int} {nm : ByteArray} {sz en fl of ix : Int} {mv : Value} (h : LRow xs i k nm sz en fl of ix mv) (hx : ∀ j, j < 8 → xs'[8 * i + j]? = xs[8 * i + j]?) : LRow xs' i k nm sz en fl of ix mv := by
 obtain ⟨h0, h1, h2, h3, h4, h5, h6, h7⟩ := h
 exact ⟨(hx 0 (by omega)).trans h0, (hx 1 (by omega)).trans h1, (hx 2 (by omega)).trans h2, (hx 3 (by omega)).trans h3, (hx 4 (by omega)).trans h4, (hx 5 (by omega)).trans h5, (hx 6 (by omega)).trans h6, (hx 7 (by omega)).trans h7⟩
def PartAt (W : World) (pv : Value) (j : Nat) (nm : ByteArray) (o : Value) (a b v : Int) : Prop :=
 ∃ g n cap, pv = .slice (some ⟨g, 0, none⟩) n cap ∧ j < n ∧ g < W.heap.size ∧ W.cell? ⟨g, j * 5, none⟩ = some (.string nm) ∧ W.cell? ⟨g, j * 5 + 1, none⟩ = some o ∧ W.cell? ⟨g, j * 5 + 2, none⟩ = some (.int .i64 a) ∧
  W.cell? ⟨g, j * 5 + 3, none⟩ = some (.int .i64 b) ∧ W.cell? ⟨g, j * 5 + 4, none⟩ = some (.int .i64 v)
theorem PartAt.of {W : World} {pv : Value} {n j : Nat} {xs : List Value} {nm : ByteArray} {o : Value} {a b v : Int} (ho : W.ownsRow 0 56 5 pv n xs) (hr : PRow xs j nm o a b v) (hj : j < n) : PartAt W pv j nm o a b v := by
 obtain ⟨g, cap, rfl, hg⟩ := own_form ho (by omega)
 obtain ⟨h0, h1, h2, h3, h4⟩ := row_cells ho hr
 exact ⟨g, n, cap, rfl, hj, hg, h0, h1, h2, h3, h4⟩
theorem PartAt.uniq {W : World} {pv : Value} {j : Nat} {nm nm' : ByteArray} {o o' : Value} {a b v a' b' v' : Int} (h : PartAt W pv j nm o a b v) (h' : PartAt W pv j nm' o' a' b' v') : nm = nm' ∧ o = o' ∧ a = a' ∧ b = b' ∧ v = v' := by
 obtain ⟨g, n, cap, rfl, _, _, h0, h1, h2, h3, h4⟩ := h
 obtain ⟨g', n', cap', e, _, _, k0, k1, k2, k3, k4⟩ := h'
 cases e
 rw [h0] at k0; rw [h1] at k1; rw [h2] at k2; rw [h3] at k3; rw [h4] at k4
 cases k0; cases k1; cases k2; cases k3; cases k4
 exact ⟨rfl, rfl, rfl, rfl, rfl⟩
inductive RowOk (W w : World) (D : Nat → Prop) (xs : List Value) (m : Value → Option Value) (ixv : Value) (b i : Nat) : Prop
 | int {nm : ByteArray} {sz : Int} {sg : Bool} {o pv : Value} (h : Blk W b #[.int .i64 1, .string nm, .int .i64 sz, .bool sg, o, pv] 38) (l : LRow xs i 1 nm sz (if sg then 1 else 0) 0 0 0 (.slice none 0 0))
 | of {k : Int} {nm : ByteArray} {sz : Int} {sg : Bool} {o pv : Value} {n : Nat} (hk : k = 2 ∨ k = 8 ∨ k = 10) (h : Blk W b #[.int .i64 k, .string nm, .int .i64 sz, .bool sg, o, pv] 38) (hm : m o = some (.int .i64 n))
   (l : LRow xs i k nm 0 0 0 n 0 (.slice none 0 0))
 | arr {nm : ByteArray} {sz : Int} {sg : Bool} {o pv : Value} {n x : Nat} (h : Blk W b #[.int .i64 3, .string nm, .int .i64 sz, .bool sg, o, pv] 38) (hm : m o = some (.int .i64 n)) (hx : m ixv = some (.int .i64 x))
   (l : LRow xs i 3 nm sz 0 0 n x (.slice none 0 0))
 | enm {nm : ByteArray} {sz : Int} {sg : Bool} {o pv mv : Value} {n : Nat} {ys : List Value} (h : Blk W b #[.int .i64 6, .string nm, .int .i64 sz, .bool sg, o, pv] 38) (hp : ∃ a cap, pv = .slice a n cap)
   (ho : w.ownsRow 0 74 5 mv n ys) (hv : ∀ g, mv.ownBlock = some g → ¬ D g) (hr : ∀ j, j < n → ∃ nm o a b v, PartAt W pv j nm o a b v ∧ PRow ys j nm (.int .i64 0) 0 0 v)
   (l : LRow xs i 6 nm sz 0 (if sg then 1 else 0) 0 0 mv)
 | comp {k : Int} {nm : ByteArray} {sz : Int} {sg : Bool} {o pv mv : Value} {n : Nat} {ys : List Value} (hk : k = 4 ∨ k = 5) (h : Blk W b #[.int .i64 k, .string nm, .int .i64 sz, .bool sg, o, pv] 38) (hp : ∃ a cap, pv = .slice a n cap)
   (ho : w.ownsRow 0 74 5 mv n ys) (hv : ∀ g, mv.ownBlock = some g → ¬ D g) (hr : ∀ j, j < n → ∃ nm o a b v q, PartAt W pv j nm o a b v ∧ m o = some (.int .i64 (q : Nat)) ∧ PRow ys j nm (.int .i64 (q : Nat)) a b 0)
   (l : LRow xs i k nm sz 0 0 0 0 mv)
theorem RowOk.mono {W w w' : World} {D D' : Nat → Prop} {xs xs' : List Value} {m m' : Value → Option Value} {ixv : Value} {b i : Nat} (r : RowOk W w D xs m ixv b i) (hx : ∀ j, j < 8 → xs'[8 * i + j]? = xs[8 * i + j]?)
  (hm : ∀ x u, m x = some u → m' x = some u) (hw : ∀ g, g < w.heap.size → ¬ D g → w'.heap[g]? = w.heap[g]?) (hD : ∀ g, g < w.heap.size → D' g → D g) : RowOk W w' D' xs' m' ixv b i := by
 cases r with
 | int h l => exact .int h (l.same hx)
 | of hk h hmo l => exact .of hk h (hm _ _ hmo) (l.same hx)
 | arr h hmo hmx l => exact .arr h (hm _ _ hmo) (hm _ _ hmx) (l.same hx)
 | enm h hp ho hv hr l => exact .enm h hp (ownsRow_of ho fun g hg hl => hw g hl (hv g hg)) (fun g hg x => hv g hg (hD g (ho.lt g hg).2 x)) hr (l.same hx)
 | comp hk h hp ho hv hr l =>
  exact .comp hk h hp (ownsRow_of ho fun g hg hl => hw g hl (hv g hg)) (fun g hg x => hv g hg (hD g (ho.lt g hg).2 x))
   (fun j hj => by obtain ⟨nm, o, a, b, v, q, h1, h2, h3⟩ := hr j hj; exact ⟨nm, o, a, b, v, q, h1, hm _ _ h2, h3⟩) (l.same hx)
def Wr (lb mb : Nat) (v : Value) (g : Nat) : Prop := g = lb ∨ g = mb ∨ v.ownBlock = some g
def Ex (lb mb hb g : Nat) : Prop := g = lb ∨ g = mb ∨ g = hb
structure Old (W : World) (lb mb hb : Nat) (w : World) : Prop where
 os : w.os = W.os
 tape : w.tape = W.tape
 output : w.output = W.output
 size : W.heap.size ≤ w.heap.size
 block : ∀ k, k < W.heap.size → ¬ Ex lb mb hb k → w.heap[k]? = W.heap[k]?
section
variable {W w w' : World} {lb mb hb : Nat}
theorem Old.refl (W : World) (lb mb hb : Nat) : Old W lb mb hb W := ⟨rfl, rfl, rfl, Nat.le_refl _, fun _ _ _ => rfl⟩
theorem Old.below (h : Old W lb mb hb w) (b : Below W.heap.size w w') : Old W lb mb hb w' :=
 ⟨b.os.trans h.os, b.tape.trans h.tape, b.output.trans h.output, Nat.le_trans h.size b.size, fun k hk he => (b.block k hk).trans (h.block k hk he)⟩
theorem Old.grown {row : Option Nat} (h : Old W lb mb hb w) (g : w.grownBy w' row) (hr : ∀ k, row = some k → Ex lb mb hb k ∨ W.heap.size ≤ k) : Old W lb mb hb w' :=
 ⟨g.os.trans h.os, g.tape.trans h.tape, g.output.trans h.output, Nat.le_trans h.size g.size, fun k hk he => (g.block k (Nat.lt_of_lt_of_le hk h.size) (fun e => by
  rcases hr k e.symm with x | x
  ·exact he x
  ·omega)).trans (h.block k hk he)⟩
theorem Old.set (h : Old W lb mb hb w) {p : Addr} (hp : Ex lb mb hb p.block ∨ W.heap.size ≤ p.block) (u : Value) : Old W lb mb hb (w.setCell p u) :=
 ⟨h.os, h.tape, h.output, by simpa using h.size, fun k hk he => (Below.heap_setCell w p u k (fun e => by
  rcases hp with x | x
  ·exact he (e ▸ x)
  ·omega)).trans (h.block k hk he)⟩
theorem Old.blk (h : Old W lb mb hb w) {b : Nat} {c : Array Value} {t : TypeId} (hb' : Blk W b c t) (he : ¬ Ex lb mb hb b) : Blk w b c t := hb'.of_eq (h.block b hb'.lt he)
theorem Old.own (h : Old W lb mb hb w) {base e size n : Nat} {v : Value} {xs : List Value} (ho : W.ownsRow base e size v n xs) (he : ∀ g, v.ownBlock = some g → ¬ Ex lb mb hb g) : w.ownsRow base e size v n xs :=
 ownsRow_of ho fun g hg hl => h.block g hl (he g hg)
end
structure LSt (W : World) (lb mb : Nat) (ixv : Value) (hb : Nat) (X : Nat → Prop) (n : Nat) (v : Value) (xs : List Value) (m : Value → Option Value) (U : Nat → Prop) (w : World) : Prop where
 lst : Blk w lb #[v] 40
 own : w.ownsRow 0 72 8 v n xs
 ob : ∀ g, v.ownBlock = some g → g = hb ∨ W.heap.size ≤ g
 mp : IsMapOf w mb m
 key : ∀ x u, m x = some u → ∃ b i t, x = .pointer (some ⟨b, 0, none⟩) ∧ u = .int .i64 ((i + 1 : Nat) : Int) ∧ i < n ∧ Rep W (Ex lb mb hb) b t ∧ Good t ∧ (U i ∨ RowOk W w (fun g => Wr lb mb v g ∨ X g) xs m ixv b i)
 inj : ∀ x y u, m x = some u → m y = some u → x = y
 row : ∀ i, i < n → ∃ b, m (.pointer (some ⟨b, 0, none⟩)) = some (.int .i64 ((i + 1 : Nat) : Int))
 kind : ∀ i, U i → i < n
 old : Old W lb mb hb w
 lo : lb < W.heap.size ∧ mb < W.heap.size ∧ hb < W.heap.size ∧ lb ≠ mb ∧ lb ≠ hb ∧ mb ≠ hb
 xs : ∀ g, X g → W.heap.size ≤ g ∧ g < w.heap.size ∧ v.ownBlock ≠ some g
def Kept (D : Nat → Prop) (w w' : World) : Prop := w.heap.size ≤ w'.heap.size ∧ ∀ g, g < w.heap.size → ¬ D g → w'.heap[g]? = w.heap[g]?
theorem Kept.trans {D D' : Nat → Prop} {w w1 w2 : World} (h : Kept D w w1) (h' : Kept D' w1 w2) (hD : ∀ g, g < w.heap.size → D' g → D g) : Kept D w w2 :=
 ⟨Nat.le_trans h.1 h'.1, fun g hg hd => (h'.2 g (Nat.lt_of_lt_of_le hg h.1) (fun x => hd (hD g hg x))).trans (h.2 g hg hd)⟩
theorem Kept.refl (D : Nat → Prop) (w : World) : Kept D w w := ⟨Nat.le_refl _, fun _ _ _ => rfl⟩
theorem Kept.blk {D : Nat → Prop} {w w' : World} (h : Kept D w w') {b : Nat} {c : Array Value} {t : TypeId} (hb : Blk w b c t) (hd : ¬ D b) : Blk w' b c t := hb.of_eq (h.2 b hb.lt hd)
theorem Kept.own {D : Nat → Prop} {w w' : World} (h : Kept D w w') {base e size n : Nat} {v : Value} {xs : List Value} (ho : w.ownsRow base e size v n xs) (hd : ∀ g, v.ownBlock = some g → ¬ D g) : w'.ownsRow base e size v n xs :=
 ownsRow_of ho fun g hg hl => h.2 g hl (hd g hg)
def PutPost (W : World) (lb mb : Nat) (ixv : Value) (hb : Nat) (X : Nat → Prop) (n : Nat) (v : Value) (xs : List Value) (m : Value → Option Value) (U : Nat → Prop) (w : World) (x : Value) (c : Nat) (e : Ending) (w' : World) : Prop :=
 ∃ i n' v' xs' m', e = .returned (.int .i64 ((i + 1 : Nat) : Int)) ∧ LSt W lb mb ixv hb X n' v' xs' m' U w' ∧ i < n' ∧ n ≤ n' ∧ n' ≤ n + c ∧ (∀ j, j < 8 * n → xs'[j]? = xs[j]?) ∧ (∀ x u, m x = some u → m' x = some u) ∧ m' x = some (.int .i64 ((i + 1 : Nat) : Int)) ∧
  Kept (Wr lb mb v) w w' ∧ ∀ g, v'.ownBlock = some g → v.ownBlock = some g ∨ w.heap.size ≤ g
section
variable {W w w' : World} {lb mb : Nat} {ixv : Value} {hb n : Nat} {X X' : Nat → Prop} {v : Value} {xs : List Value} {m : Value → Option Value} {U : Nat → Prop}
theorem LSt.not_own (st : LSt W lb mb ixv hb X n v xs m U w) {k : Nat} (hk : k < W.heap.size) (hne : k ≠ hb) : v.ownBlock ≠ some k := fun h => by
 rcases st.ob k h with x | x
 ·exact hne x
 ·omega
theorem LSt.move (st : LSt W lb mb ixv hb X n v xs m U w) (hk : ∀ g, g < w.heap.size → ¬ X g → w'.heap[g]? = w.heap[g]?) (hbl : Below W.heap.size w w') (hX : ∀ g, X' g → (X g ∨ w.heap.size ≤ g) ∧ g < w'.heap.size) : LSt W lb mb ixv hb X' n v xs m U w' := by
 have hlo := st.lo
 have hos := st.old.size
 have hxn : ∀ g, X g → W.heap.size ≤ g ∧ v.ownBlock ≠ some g := fun g hg => ⟨(st.xs g hg).1, (st.xs g hg).2.2⟩
 have hll := st.lst.lt
 have hml := st.mp.lt
 refine ⟨st.lst.of_eq (hk _ hll (fun h => by have := (hxn _ h).1; omega)), ownsRow_of st.own fun g hg hl => hk g hl (fun h => (hxn _ h).2 hg), st.ob, st.mp.of_eq (hk _ hml (fun h => by have := (hxn _ h).1; omega)), ?_, st.inj, st.row, st.kind, st.old.below hbl, hlo, ?_⟩
 ·intro x u hx
  obtain ⟨b, i, t, h1, h2, h3, h4, h5, h6⟩ := st.key x u hx
  refine ⟨b, i, t, h1, h2, h3, h4, h5, h6.imp id fun r => r.mono (fun _ _ => rfl) (fun _ _ h => h) (fun g hg hd => hk g hg (fun h => hd (.inr h))) (fun g hg hd => hd.imp id fun h => ?_)⟩
  rcases (hX g h).1 with h | h
  ·exact h
  ·omega
 ·intro g hg
  obtain ⟨h1, h2⟩ := hX g hg
  rcases h1 with h1 | h1
  ·have := st.xs g h1
   exact ⟨this.1, h2, this.2.2⟩
  ·refine ⟨Nat.le_trans hos h1, h2, fun hx => ?_⟩
   have := (st.own.lt g hx).2
   omega
theorem LSt.write (st : LSt W lb mb ixv hb X n v xs m U w) {p : Addr} (hp : X p.block) (u : Value) : LSt W lb mb ixv hb X n v xs m U (w.setCell p u) :=
 st.move (fun g _ hd => Below.heap_setCell w p u g (fun x => hd (x ▸ hp))) ((Below.refl _ _).setCell (st.xs _ hp).1 u) (fun g hg => ⟨.inl hg, by simpa using (st.xs g hg).2.1⟩)
theorem LSt.new (st : LSt W lb mb ixv hb X n v xs m U w) (hbl : Below w.heap.size w w') (hX : ∀ g, X' g → (X g ∨ w.heap.size ≤ g) ∧ g < w'.heap.size) : LSt W lb mb ixv hb X' n v xs m U w' :=
 st.move (fun g hg _ => hbl.block g hg) (hbl.mono st.old.size) hX
theorem exists_put (m : Value → Option Value) (x v : Value) : ∃ m' : Value → Option Value, m' x = some v ∧ ∀ y, y ≠ x → m' y = m y := by
 classical exact ⟨fun y => if y = x then some v else m y, by simp, fun y h => by simp [h]⟩
theorem LSt.enter {w0 w1 w3 : World} {b g cap : Nat} {t : Ty} {row : List Value} (st : LSt W lb mb ixv hb X n v xs m U w) (h0 : Below w.heap.size w w0) (ha : Appended w0 0 72 8 v n 1 xs row g cap w1)
  (r : Rep W (Ex lb mb hb) b t) (hg : Good t) (hn : m (.pointer (some ⟨b, 0, none⟩)) = none) (hgr : (w1.setCell ⟨lb, 0, none⟩ (.slice (some ⟨g, 0, none⟩) (n + 1) cap)).grownBy w3 (some mb))
  (hsz : w3.heap.size = (w1.setCell ⟨lb, 0, none⟩ (.slice (some ⟨g, 0, none⟩) (n + 1) cap)).heap.size)
  (hmp : ∀ m' : Value → Option Value, m' (.pointer (some ⟨b, 0, none⟩)) = some (.int .i64 ((n + 1 : Nat) : Int)) → (∀ y, y ≠ .pointer (some ⟨b, 0, none⟩) → m' y = m y) → IsMapOf w3 mb m') :
  ∃ m1, LSt W lb mb ixv hb X (n + 1) (.slice (some ⟨g, 0, none⟩) (n + 1) cap) (xs ++ row) m1 (fun i => U i ∨ i = n) w3 ∧ (∀ x u, m x = some u → m1 x = some u) ∧ m1 (.pointer (some ⟨b, 0, none⟩)) = some (.int .i64 ((n + 1 : Nat) : Int)) ∧
   Kept (Wr lb mb v) w w3 ∧ (v.ownBlock = some g ∨ w.heap.size ≤ g) := by
 obtain ⟨m1, hm1, hm2⟩ := exists_put m (.pointer (some ⟨b, 0, none⟩)) (.int .i64 ((n + 1 : Nat) : Int))
 have hsub : ∀ x u, m x = some u → m1 x = some u := fun x u h => by
  rw [hm2 x (fun e => by rw [e, hn] at h; cases h)]; exact h
 have hl := st.own.1
 have hlo := st.lo
 have hos := st.old.size
 have hs0 := h0.size
 have hs1 := ha.2.1.size
 have hll := st.lst.lt
 have hown0 : w0.ownsRow 0 72 8 v n xs := ownsRow_of st.own fun g _ hl => h0.block g hl
 have hgnew : v.ownBlock = some g ∨ w.heap.size ≤ g := ha.2.2.1.imp id fun h => by omega
 have hgb : g = hb ∨ W.heap.size ≤ g := by
  rcases hgnew with h | h
  ·exact st.ob g h
  ·exact .inr (by omega)
 have hglb : g ≠ lb := by rcases hgb with h | h <;> omega
 have hgmb : g ≠ mb := by rcases hgb with h | h <;> omega
 have hkept : ∀ k, k < w.heap.size → ¬ Wr lb mb v k → w3.heap[k]? = w.heap[k]? := fun k hk hd => by
  rw [hgr.block k (by simp; omega) (fun x => hd (.inr (.inl (Option.some.inj x)))), Below.heap_setCell _ _ _ _ (fun x => hd (.inl x)), ha.2.1.block k (by omega) (fun x => hd (.inr (.inr x.symm))), h0.block k hk]
 have hlst : Blk w3 lb #[.slice (some ⟨g, 0, none⟩) (n + 1) cap] 40 := by
  have h1 := ((st.lst.old h0).grown ha.2.1 (fun x => st.not_own hlo.1 hlo.2.2.2.2.1 x.symm)).set 0 (.slice (some ⟨g, 0, none⟩) (n + 1) cap)
  exact h1.grown hgr (fun x => hlo.2.2.2.1 (Option.some.inj x))
 have hown3 : w3.ownsRow 0 72 8 (.slice (some ⟨g, 0, none⟩) (n + 1) cap) (n + 1) (xs ++ row) := by
  refine ownsRow_of (ownsRow_setCell ha.1 (fun x => ?_) _) fun k hk hkl => hgr.block k hkl (fun x => ?_)
  ·simp [Value.ownBlock] at x; omega
  ·simp [Value.ownBlock] at hk; have := Option.some.inj x; omega
 refine ⟨m1, ⟨hlst, hown3, fun g' hg' => ?_, hmp m1 hm1 hm2, ?_, ?_, ?_, ?_, ?_, hlo, ?_⟩, hsub, hm1, ⟨by rw [hsz]; simp; omega, hkept⟩, hgnew⟩
 ·have e : g = g' := by simpa [Value.ownBlock] using hg'
  exact e ▸ hgb
 ·intro x u hx
  by_cases he : x = .pointer (some ⟨b, 0, none⟩)
  ·subst he
   rw [hm1] at hx
   exact ⟨b, n, t, rfl, (Option.some.inj hx).symm, Nat.lt_succ_self _, r, hg, .inl (.inr rfl)⟩
  ·rw [hm2 x he] at hx
   obtain ⟨b', i, t', h1, h2, h3, h4, h5, h6⟩ := st.key x u hx
   refine ⟨b', i, t', h1, h2, by omega, h4, h5, h6.imp .inl fun r => r.mono (fun j hj => List.getElem?_append_left (by omega)) hsub (fun k hk hd => hkept k hk (fun h => hd (.inl h))) (fun k hk hd => ?_)⟩
   rcases hd with (hd | hd | hd) | hd
   ·exact .inl (.inl hd)
   ·exact .inl (.inr (.inl hd))
   ·have e : g = k := by simpa [Value.ownBlock] using hd
    rcases hgnew with h | h
    ·exact .inl (.inr (.inr (by rw [h, e])))
    ·omega
   ·exact .inr hd
 ·intro x y u hx hy
  by_cases hex : x = .pointer (some ⟨b, 0, none⟩) <;> by_cases hey : y = .pointer (some ⟨b, 0, none⟩)
  ·rw [hex, hey]
  ·rw [hex, hm1] at hx
   rw [hm2 y hey] at hy
   obtain ⟨_, i, _, _, h2, h3, _⟩ := st.key y u hy
   rw [← Option.some.inj hx] at h2
   simp at h2
   omega
  ·rw [hey, hm1] at hy
   rw [hm2 x hex] at hx
   obtain ⟨_, i, _, _, h2, h3, _⟩ := st.key x u hx
   rw [← Option.some.inj hy] at h2
   simp at h2
   omega
  ·rw [hm2 x hex] at hx
   rw [hm2 y hey] at hy
   exact st.inj x y u hx hy
 ·intro i hi
  by_cases h : i < n
  ·obtain ⟨b', hb'⟩ := st.row i h
   exact ⟨b', hsub _ _ hb'⟩
  ·obtain rfl : i = n := by omega
   exact ⟨b, hm1⟩
 ·rintro i (h | h)
  ·have := st.kind i h; omega
  ·omega
 ·exact ((((st.old.below (h0.mono hos)).grown ha.2.1 (fun k hk => (st.ob k hk).imp (fun h => .inr (.inr h)) id)).set (.inl (.inl rfl)) _).grown hgr (fun k hk => .inl (.inr (.inl (Option.some.inj hk).symm))))
 ·intro k hk
  obtain ⟨h1, h2, h5⟩ := st.xs k hk
  refine ⟨h1, by rw [hsz]; simp; omega, fun h => ?_⟩
  have e : g = k := by simpa [Value.ownBlock] using h
  rcases hgnew with h' | h'
  ·exact h5 (by rw [h', e])
  ·omega
def setL : List Value → Nat → List Value → List Value
 | xs, _, [] => xs
 | xs, o, v :: r => setL (xs.set o v) (o + 1) r
theorem setL_out : ∀ (vs : List Value) (xs : List Value) (o j : Nat), j < o ∨ o + vs.length ≤ j → (setL xs o vs)[j]? = xs[j]?
 | [], _, _, _, _ => rfl
 | v :: r, xs, o, j, h => by
  simp only [List.length_cons] at h
  rw [setL, setL_out r _ (o + 1) j (by omega), List.getElem?_set_ne (by omega)]
theorem setL_in : ∀ (vs : List Value) (xs : List Value) (o j : Nat), o + vs.length ≤ xs.length → j < vs.length → (setL xs o vs)[o + j]? = vs[j]?
 | [], _, _, _, _, h => by simp at h
 | v :: r, xs, o, 0, h, _ => by
  simp only [List.length_cons] at h
  rw [setL, setL_out r _ (o + 1) _ (by omega), Nat.add_zero, List.getElem?_set_self (by omega)]
  rfl
 | v :: r, xs, o, j + 1, h, hj => by
  simp only [List.length_cons] at h hj
  rw [setL, show o + (j + 1) = o + 1 + j by omega, setL_in r _ (o + 1) j (by simp; omega) (by omega)]
  simp
theorem setCells_own {base e size g cap : Nat} : ∀ (vs : List Value) (w : World) (xs : List Value) (o : Nat), w.ownsRow base e size (.slice (some ⟨g, 0, none⟩) n cap) n xs →
  (w.setCells g o vs).ownsRow base e size (.slice (some ⟨g, 0, none⟩) n cap) n (setL xs o vs) ∧ w.grownBy (w.setCells g o vs) (some g) ∧ (w.setCells g o vs).heap.size = w.heap.size
 | [], w, xs, o, h => ⟨h, ⟨rfl, rfl, rfl, Nat.le_refl _, fun _ _ _ => rfl⟩, rfl⟩
 | v :: r, w, xs, o, h => by
  obtain ⟨h1, h2⟩ := h.stored o v
  obtain ⟨h3, h4, h5⟩ := setCells_own r _ _ (o + 1) h1
  have hs : (w.setCell ⟨g, o, none⟩ v).heap.size = w.heap.size := by simp
  exact ⟨h3, ⟨h4.os.trans h2.os, h4.tape.trans h2.tape, h4.output.trans h2.output, Nat.le_trans h2.size h4.size, fun k hk hne => (h4.block k (by rw [hs]; exact hk) hne).trans (h2.block k hk hne)⟩, h5.trans hs⟩
theorem LSt.leave {b g cap i0 : Nat} {vs : List Value} (st : LSt W lb mb ixv hb X n (.slice (some ⟨g, 0, none⟩) n cap) xs m (fun i => U i ∨ i = i0) w) (hi : i0 < n) (hU : ¬ U i0) (hm : m (.pointer (some ⟨b, 0, none⟩)) = some (.int .i64 ((i0 + 1 : Nat) : Int))) (hvs : vs.length = 8)
  (hok : RowOk W w (fun k => Wr lb mb (.slice (some ⟨g, 0, none⟩) n cap) k ∨ X k) (setL xs (8 * i0) vs) m ixv b i0) :
  LSt W lb mb ixv hb X n (.slice (some ⟨g, 0, none⟩) n cap) (setL xs (8 * i0) vs) m U (w.setCells g (8 * i0) vs) ∧ Kept (Wr lb mb (.slice (some ⟨g, 0, none⟩) n cap)) w (w.setCells g (8 * i0) vs) := by
 obtain ⟨h1, h2, h3⟩ := setCells_own vs w xs (8 * i0) st.own
 have hlo := st.lo
 have hgb : g = hb ∨ W.heap.size ≤ g := st.ob g rfl
 have hglb : lb ≠ g := by rcases hgb with h | h <;> omega
 have hgmb : mb ≠ g := by rcases hgb with h | h <;> omega
 have hk : ∀ k, k < w.heap.size → k ≠ g → (w.setCells g (8 * i0) vs).heap[k]? = w.heap[k]? := fun k hk hne => h2.block k hk (fun x => hne (Option.some.inj x))
 refine ⟨⟨st.lst.of_eq (hk _ st.lst.lt hglb), h1, st.ob, st.mp.of_eq (hk _ st.mp.lt hgmb), ?_, st.inj, st.row, fun i hi => st.kind i (.inl hi), ?_, hlo, ?_⟩, ⟨by rw [h3]; exact Nat.le_refl _, fun k hkl hd => hk k hkl (fun x => hd (.inr (.inr (by rw [x]; rfl))))⟩⟩
 ·intro x u hx
  obtain ⟨b', i, t, e1, e2, e3, e4, e5, e6⟩ := st.key x u hx
  refine ⟨b', i, t, e1, e2, e3, e4, e5, ?_⟩
  by_cases h : i = i0
  ·subst h
   right
   have e := st.inj x _ u hx (by rw [e2]; exact hm)
   rw [e1] at e
   simp at e
   rw [e]
   exact hok.mono (fun _ _ => rfl) (fun _ _ h => h) (fun k hkl hd => hk k hkl (fun x => hd (.inl (.inr (.inr (by rw [x]; rfl)))))) (fun _ _ h => h)
  ·rcases e6 with (h' | h') | h'
   ·exact .inl h'
   ·exact absurd h' h
   ·exact .inr (h'.mono (fun j hj => setL_out _ _ _ _ (by omega)) (fun _ _ h => h) (fun k hkl hd => hk k hkl (fun x => hd (.inl (.inr (.inr (by rw [x]; rfl)))))) (fun _ _ h => h))
 ·exact st.old.grown h2 (fun k hkk => (st.ob k hkk).imp (fun h => .inr (.inr h)) id)
 ·intro k hkx
  have := st.xs k hkx
  exact ⟨this.1, by rw [h3]; exact this.2.1, this.2.2⟩
end
theorem listParts : ElemOk Tryz.prog 40 72 8 88 := .of (z := .agg #[.int .i64 0, .string ⟨#[]⟩, .int .i64 0, .int .i64 0, .int .i64 0, .int .i64 0, .int .i64 0, .slice none 0 0]) Tryz.underlying40 (by kernel_rfl) (by rfl) (by decide)
theorem memParts : ElemOk Tryz.prog 70 74 5 48 := .of (z := .agg #[.string ⟨#[]⟩, .int .i64 0, .int .i64 0, .int .i64 0, .int .i64 0]) Tryz.underlying70 (by kernel_rfl) (by rfl) (by decide)
theorem ptrInfo : ∃ j, Tryz.prog.info? 38 = some j ∧ j.size ≠ 0 := by
 have h : (Tryz.prog.info? 38).map (·.size) = some 6 := by kernel_rfl
 obtain ⟨j, hj, hs⟩ := Option.map_eq_some_iff.1 h
 exact ⟨j, hj, by rw [hs]; decide⟩
structure Env (W : World) (nb lb pb xb mb ib hb : Nat) (w : World) : Prop where
 num : Blk w nb #[.map (some mb)] 67
 put : Blk w pb #[.func (.func 31) #[] #[.pointer (some ⟨nb, 0, none⟩), .pointer (some ⟨lb, 0, none⟩), .pointer (some ⟨pb, 0, none⟩), .pointer (some ⟨xb, 0, none⟩)]] 68
 idx : Blk w xb #[.pointer (some ⟨ib, 0, none⟩)] 24
 ne : (nb < W.heap.size ∧ pb < W.heap.size ∧ xb < W.heap.size) ∧ ¬ Ex lb mb hb nb ∧ ¬ Ex lb mb hb pb ∧ ¬ Ex lb mb hb xb
theorem Env.keep {W : World} {nb lb pb xb mb ib hb : Nat} {w w' : World} (h : Env W nb lb pb xb mb ib hb w) (hk : ∀ g, g < w.heap.size → g < W.heap.size → ¬ Ex lb mb hb g → w'.heap[g]? = w.heap[g]?) : Env W nb lb pb xb mb ib hb w' :=
 ⟨h.num.of_eq (hk _ h.num.lt h.ne.1.1 h.ne.2.1), h.put.of_eq (hk _ h.put.lt h.ne.1.2.1 h.ne.2.2.1), h.idx.of_eq (hk _ h.idx.lt h.ne.1.2.2 h.ne.2.2.2), h.ne⟩
theorem Env.kept {W : World} {nb lb pb xb mb ib hb : Nat} {w w' : World} (h : Env W nb lb pb xb mb ib hb w) {v : Value} (hk : Kept (Wr lb mb v) w w') (hv : ∀ g, v.ownBlock = some g → g = hb ∨ W.heap.size ≤ g) : Env W nb lb pb xb mb ib hb w' :=
 h.keep fun g hg hW he => hk.2 g hg (fun x => by
  rcases x with x | x | x
  ·exact he (.inl x)
  ·exact he (.inr (.inl x))
  ·rcases hv g x with y | y
   ·exact he (.inr (.inr y))
   ·omega)
def PutC (t : Ty) : Prop := ∀ (W : World) (nb lb pb xb mb ib hb b : Nat) (X : Nat → Prop) (n : Nat) (v : Value) (xs : List Value) (m : Value → Option Value) (U : Nat → Prop) (w : World),
 Env W nb lb pb xb mb ib hb w → LSt W lb mb (.pointer (some ⟨ib, 0, none⟩)) hb X n v xs m U w → Rep W (Ex lb mb hb) b t → Good t → Rep W (Ex lb mb hb) ib (.int 4 false ⟨#[117, 52]⟩) → n + t.cnt ≤ 1000000 →
 Calls Tryz.prog 31 #[.pointer (some ⟨b, 0, none⟩), .pointer (some ⟨nb, 0, none⟩), .pointer (some ⟨lb, 0, none⟩), .pointer (some ⟨pb, 0, none⟩), .pointer (some ⟨xb, 0, none⟩)] w (PutPost W lb mb (.pointer (some ⟨ib, 0, none⟩)) hb X n v xs m U w (.pointer (some ⟨b, 0, none⟩)) t.cnt)
theorem LSt.keysIn {W w w' : World} {lb mb : Nat} {ixv : Value} {hb n : Nat} {X : Nat → Prop} {v : Value} {xs : List Value} {m : Value → Option Value} {U : Nat → Prop} (st : LSt W lb mb ixv hb X n v xs m U w) (ho : Old W lb mb hb w') : ∀ x u, m x = some u → PtrKey w' x := by
 intro x u hx
 obtain ⟨b, i, t, rfl, _, _, r, _⟩ := st.key x u hx
 obtain ⟨_, _, _, _, _, _, h, hd⟩ := r.head
 exact ⟨b, _, _, rfl, ho.blk h hd⟩
theorem LSt.keys {W w : World} {lb mb : Nat} {ixv : Value} {hb n : Nat} {X : Nat → Prop} {v : Value} {xs : List Value} {m : Value → Option Value} {U : Nat → Prop} (st : LSt W lb mb ixv hb X n v xs m U w) : ∀ x u, m x = some u → PtrKey w x := st.keysIn st.old
theorem LSt.apart {W w : World} {lb mb : Nat} {ixv : Value} {hb n : Nat} {X : Nat → Prop} {v : Value} {xs : List Value} {m : Value → Option Value} {U : Nat → Prop} (st : LSt W lb mb ixv hb X n v xs m U w) {g : Nat} (hg : X g) : ¬ Wr lb mb v g := fun h => by
 have hh := st.xs g hg
 have hlo := st.lo
 rcases h with h | h | h
 ·omega
 ·omega
 ·exact hh.2.2 h
theorem app_stay {w w0 w1 : World} {base n m g cap lb : Nat} {e size : Nat} {v : Value} {xs news : List Value} (h0 : Below w.heap.size w w0) (ha : Appended w0 base e size v n m xs news g cap w1) (u : Value)
  {k : Nat} (hk : k < w.heap.size) (hb : v.ownBlock ≠ some k) (hl : k ≠ lb) : (w1.setCell ⟨lb, 0, none⟩ u).heap[k]? = w.heap[k]? := by
 rw [Below.heap_setCell _ _ _ _ hl, ha.2.1.block k (Nat.lt_of_lt_of_le hk h0.size) (fun x => hb x.symm), h0.block k hk]
theorem Ty.cnt_pos (t : Ty) : 1 ≤ t.cnt := by cases t <;> simp [Ty.cnt]
def Kids : Ty → Prop
 | .ptr t => PutC t
 | .arr _ t => PutC t ∧ PutC (.int 4 false ⟨#[117, 52]⟩)
 | .named _ t => PutC t
 | .cst t => PutC t
 | .comp _ _ _ n _ py _ _ => ∀ i, i < n → PutC (py i)
 | _ => True
structure Pre (W : World) (lb mb : Nat) (ixv : Value) (hb n : Nat) (v : Value) (xs : List Value) (m : Value → Option Value) (U : Nat → Prop) (w : World) (b : Nat) (X : Nat → Prop) (n' : Nat) (v' : Value) (xs' : List Value) (m' : Value → Option Value) (w' : World) : Prop where
 st : LSt W lb mb ixv hb X n' v' xs' m' (fun i => U i ∨ i = n) w'
 ge : n + 1 ≤ n'
 row : ∀ j, j < 8 * n → xs'[j]? = xs[j]?
 sub : ∀ x u, m x = some u → m' x = some u
 me : m' (.pointer (some ⟨b, 0, none⟩)) = some (.int .i64 ((n + 1 : Nat) : Int))
 kept : Kept (Wr lb mb v) w w'
 own : ∀ g, v'.ownBlock = some g → v.ownBlock = some g ∨ w.heap.size ≤ g
section
variable {W w w' w2 : World} {lb mb : Nat} {ixv : Value} {hb n : Nat} {v : Value} {xs : List Value} {m : Value → Option Value} {U : Nat → Prop} {b : Nat} {X X' : Nat → Prop} {n' : Nat} {v' : Value} {xs' : List Value} {m' : Value → Option Value}
theorem Pre.move (p : Pre W lb mb ixv hb n v xs m U w b X n' v' xs' m' w') (hk : ∀ g, g < w'.heap.size → ¬ X g → w2.heap[g]? = w'.heap[g]?) (hbl : Below W.heap.size w' w2) (hX : ∀ g, X' g → (X g ∨ w'.heap.size ≤ g) ∧ g < w2.heap.size) (hw : ∀ g, g < w.heap.size → w2.heap[g]? = w'.heap[g]?) :
  Pre W lb mb ixv hb n v xs m U w b X' n' v' xs' m' w2 :=
 ⟨p.st.move hk hbl hX, p.ge, p.row, p.sub, p.me, ⟨Nat.le_trans p.kept.1 hbl.size, fun g hg hd => (hw g hg).trans (p.kept.2 g hg hd)⟩, p.own⟩
theorem Pre.write (p : Pre W lb mb ixv hb n v xs m U w b X n' v' xs' m' w') {q : Addr} (hq : X q.block) (hw : w.heap.size ≤ q.block) (u : Value) : Pre W lb mb ixv hb n v xs m U w b X n' v' xs' m' (w'.setCell q u) :=
 p.move (fun g _ hd => Below.heap_setCell w' q u g (fun x => hd (x ▸ hq))) ((Below.refl _ _).setCell (p.st.xs _ hq).1 u) (fun g hg => ⟨.inl hg, by simpa using (p.st.xs g hg).2.1⟩) (fun g hg => Below.heap_setCell w' q u g (by omega))
theorem Pre.new (p : Pre W lb mb ixv hb n v xs m U w b X n' v' xs' m' w') (hbl : Below w'.heap.size w' w2) (hX : ∀ g, X' g → (X g ∨ w'.heap.size ≤ g) ∧ g < w2.heap.size) : Pre W lb mb ixv hb n v xs m U w b X' n' v' xs' m' w2 :=
 p.move (fun g hg _ => hbl.block g hg) (hbl.mono p.st.old.size) hX (fun g hg => hbl.block g (Nat.lt_of_lt_of_le hg p.kept.1))
theorem Pre.less (p : Pre W lb mb ixv hb n v xs m U w b X n' v' xs' m' w') (hX : ∀ g, X' g → X g) : Pre W lb mb ixv hb n v xs m U w b X' n' v' xs' m' w' :=
 p.move (fun _ _ _ => rfl) (Below.refl _ _) (fun g hg => ⟨.inl (hX g hg), (p.st.xs g (hX g hg)).2.1⟩) (fun _ _ => rfl)
theorem Pre.call {x : Value} {c : Nat} {e : Ending} (p : Pre W lb mb ixv hb n v xs m U w b X n' v' xs' m' w') (h : PutPost W lb mb ixv hb X n' v' xs' m' (fun i => U i ∨ i = n) w' x c e w2) :
  ∃ i n2 v2 xs2 m2, e = .returned (.int .i64 ((i + 1 : Nat) : Int)) ∧ Pre W lb mb ixv hb n v xs m U w b X n2 v2 xs2 m2 w2 ∧ n2 ≤ n' + c ∧ (∀ x u, m' x = some u → m2 x = some u) ∧ m2 x = some (.int .i64 ((i + 1 : Nat) : Int)) ∧ Kept (Wr lb mb v') w' w2 ∧ i < n2 := by
 obtain ⟨i, n2, v2, xs2, m2, rfl, st, hi, h1, h2, h3, h4, h5, h6, h7⟩ := h
 have hge := p.ge
 refine ⟨i, n2, v2, xs2, m2, rfl, ⟨st, by omega, fun j hj => (h3 j (by omega)).trans (p.row j hj), fun x u hx => h4 _ _ (p.sub x u hx), h4 _ _ p.me, p.kept.trans h6 (fun g hg hd => ?_), fun g hg => ?_⟩, h2, h4, h5, h6, hi⟩
 ·rcases hd with hd | hd | hd
  ·exact .inl hd
  ·exact .inr (.inl hd)
  ·rcases p.own g hd with h | h
   ·exact .inr (.inr h)
   ·omega
 ·rcases h7 g hg with h | h
  ·exact p.own g h
  ·exact .inr (Nat.le_trans p.kept.1 h)
def Mid (W : World) (lb mb : Nat) (ixv : Value) (hb n : Nat) (v : Value) (xs : List Value) (m : Value → Option Value) (U : Nat → Prop) (w : World) (b : Nat) (X : Nat → Prop) (xk c : Nat) (w' : World) : Prop :=
 ∃ n' v' xs' m' a0 a1 a2 a3 a4 a5 a6 a7, Pre W lb mb ixv hb n v xs m U w b X n' v' xs' m' w' ∧ n' ≤ n + c ∧ Blk w' xk #[a0, a1, a2, a3, a4, a5, a6, a7] 72 ∧ (#[a0, a1, a2, a3, a4, a5, a6, a7] : Array Value).all (·.oneCell') = true ∧
  ∀ zs : List Value, (∀ j, j < 8 → zs[8 * n + j]? = [a0, a1, a2, a3, a4, a5, a6, a7][j]?) → RowOk W w' (fun g => Wr lb mb v' g ∨ X g) zs m' ixv b n
theorem lrow_of {zs : List Value} {i : Nat} {k : Int} {nm : ByteArray} {sz en fl of ix : Int} {mv : Value}
  (h : ∀ j, j < 8 → zs[8 * i + j]? = [Value.int .i64 k, .string nm, .int .i64 sz, .int .i64 en, .int .i64 fl, .int .i64 of, .int .i64 ix, mv][j]?) : LRow zs i k nm sz en fl of ix mv :=
 ⟨h 0 (by omega), h 1 (by omega), h 2 (by omega), h 3 (by omega), h 4 (by omega), h 5 (by omega), h 6 (by omega), h 7 (by omega)⟩
theorem Mid.done {xk c : Nat} (hU : ¬ U n) (h : Mid W lb mb ixv hb n v xs m U w b X xk c w') :
  ∃ g n' cap a0 a1 a2 a3 a4 a5 a6 a7, Blk w' lb #[.slice (some ⟨g, 0, none⟩) n' cap] 40 ∧ n < n' ∧ Blk w' xk #[a0, a1, a2, a3, a4, a5, a6, a7] 72 ∧ (#[a0, a1, a2, a3, a4, a5, a6, a7] : Array Value).all (·.oneCell') = true ∧ w'.there g (n * 8) 8 ∧
   PutPost W lb mb ixv hb X n v xs m U w (.pointer (some ⟨b, 0, none⟩)) c (.returned (.int .i64 ((n + 1 : Nat) : Int))) (w'.setCells g (n * 8) [a0, a1, a2, a3, a4, a5, a6, a7]) := by
 obtain ⟨n', v', xs', m', a0, a1, a2, a3, a4, a5, a6, a7, p, hc, hblk, h1, hok⟩ := h
 have hge := p.ge
 obtain ⟨g, cap, rfl, hgl⟩ := own_form p.st.own (by omega)
 have hlen := p.st.own.1
 refine ⟨g, n', cap, a0, a1, a2, a3, a4, a5, a6, a7, p.st.lst, by omega, hblk, h1, fun j hj => ?_, ?_⟩
 ·have hx : (xs'[n * 8 + j]?).isSome = true := by rw [List.getElem?_eq_getElem (by omega)]; rfl
  obtain ⟨u, hu⟩ := Option.isSome_iff_exists.1 hx
  exact ⟨by rw [own_cell p.st.own hu]; rfl, p.st.own.frozenAt _⟩
 ·have hl := LSt.leave (vs := [a0, a1, a2, a3, a4, a5, a6, a7]) p.st (by omega) hU p.me rfl (hok _ (fun j hj => setL_in [a0, a1, a2, a3, a4, a5, a6, a7] xs' (8 * n) j (by simp; omega) hj))
  rw [Nat.mul_comm n 8]
  exact ⟨n, n', _, _, m', rfl, hl.1, by omega, by omega, hc, fun j hj => (setL_out _ _ _ _ (by omega)).trans (p.row j hj), p.sub, p.me, p.kept.trans hl.2 (fun g' hg' hd => by
   rcases hd with hd | hd | hd
   ·exact .inl hd
   ·exact .inr (.inl hd)
   ·rcases p.own g' hd with h | h
    ·exact .inr (.inr h)
    ·omega), p.own⟩
end
theorem Blk.inj6 {w : World} {b : Nat} {a0 a1 a2 a3 a4 a5 c0 c1 c2 c3 c4 c5 : Value} {t t' : TypeId} (h : Blk w b #[a0, a1, a2, a3, a4, a5] t) (h' : Blk w b #[c0, c1, c2, c3, c4, c5] t') : a0 = c0 ∧ a1 = c1 ∧ a2 = c2 ∧ a3 = c3 ∧ a4 = c4 ∧ a5 = c5 := by
 unfold Blk at h h'
 rw [h] at h'
 have e : (a0 = c0 ∧ a1 = c1 ∧ a2 = c2 ∧ a3 = c3 ∧ a4 = c4 ∧ a5 = c5) ∧ t = t' := by simpa using h'
 exact e.1
theorem Blk.eight {w : World} {b : Nat} {a0 a1 a2 a3 a4 a5 a6 a7 : Value} {t : TypeId} (h : Blk w b #[a0, a1, a2, a3, a4, a5, a6, a7] t) :
  w.cell? ⟨b, 0, none⟩ = some a0 ∧ w.cell? ⟨b, 1, none⟩ = some a1 ∧ w.cell? ⟨b, 2, none⟩ = some a2 ∧ w.cell? ⟨b, 3, none⟩ = some a3 ∧ w.cell? ⟨b, 4, none⟩ = some a4 ∧ w.cell? ⟨b, 5, none⟩ = some a5 ∧ w.cell? ⟨b, 6, none⟩ = some a6 ∧ w.cell? ⟨b, 7, none⟩ = some a7 :=
 ⟨h.cell 0, h.cell 1, h.cell 2, h.cell 3, h.cell 4, h.cell 5, h.cell 6, h.cell 7⟩
theorem put_cases {W : World} {lb mb hb : Nat} {b : Nat} {t : Ty} {k : Int} {nm : ByteArray} {sz : Int} {sg : Bool} {o : Option Addr} {pv : Value} (r : Rep W (Ex lb mb hb) b t) (hk : Kids t) (hg : Good t) (hbk : Blk W b #[.int .i64 k, .string nm, .int .i64 sz, .bool sg, .pointer o, pv] 38) :
  (k = 1 ∧ 0 ≤ sz ∧ t.cnt = 1) ∨
  (((k = 2 ∨ k = 8 ∨ k = 10) ∧ (k == 1) = false ∧ (k == 3) = false ∧ (k == 4) = false ∧ (k == 5) = false ∧ (k == 6) = false) ∧ ∃ c u, o = some ⟨c, 0, none⟩ ∧ Rep W (Ex lb mb hb) c u ∧ Good u ∧ PutC u ∧ t.cnt = u.cnt + 1) ∨
  (k = 3 ∧ ∃ c u, o = some ⟨c, 0, none⟩ ∧ Rep W (Ex lb mb hb) c u ∧ Good u ∧ PutC u ∧ PutC (.int 4 false ⟨#[117, 52]⟩) ∧ t.cnt = u.cnt + 2) ∨
  (k = 6 ∧ t.cnt = 1 ∧ ∃ (n : Nat) (vn : Nat → ByteArray) (vv : Nat → Int) (xs : List Value), n ≤ 1000 ∧ W.ownsRow 0 56 5 pv n xs ∧ (∀ g, pv.ownBlock = some g → ¬ Ex lb mb hb g) ∧ ∀ i, i < n → PRow xs i (vn i) (.pointer none) 0 0 (vv i)) ∨
  (((k = 4 ∨ k = 5) ∧ (k == 1) = false ∧ (k == 3) = false) ∧ ∃ (n : Nat) (pn : Nat → ByteArray) (py : Nat → Ty) (pa pb : Nat → Nat) (xs : List Value) (pc : Nat → Nat), n ≤ 1000 ∧ W.ownsRow 0 56 5 pv n xs ∧ (∀ g, pv.ownBlock = some g → ¬ Ex lb mb hb g) ∧ (∀ i, i < n → PRow xs i (pn i) (.pointer (some ⟨pc i, 0, none⟩)) ((pa i : Nat) : Int) ((pb i : Nat) : Int) 0) ∧
   (∀ i, i < n → Rep W (Ex lb mb hb) (pc i) (py i) ∧ Good (py i) ∧ PutC (py i)) ∧ t.cnt = sumTo (fun i => (py i).cnt) n + 1) := by
 cases r with
 | int h hd =>
  obtain ⟨e0, _, e2, _⟩ := hbk.inj6 h
  simp only [Value.int.injEq, true_and] at e0 e2
  exact .inl ⟨e0, by omega, rfl⟩
 | ptr h hd r =>
  obtain ⟨e0, _, _, _, e4, _⟩ := hbk.inj6 h
  simp only [Value.int.injEq, true_and, Value.pointer.injEq] at e0 e4
  subst e0
  cases hg with
  | ptr hg => exact .inr (.inl ⟨⟨.inl rfl, rfl, rfl, rfl, rfl, rfl⟩, _, _, e4, r, hg, hk, rfl⟩)
 | arr h hd r =>
  obtain ⟨e0, _, _, _, e4, _⟩ := hbk.inj6 h
  simp only [Value.int.injEq, true_and, Value.pointer.injEq] at e0 e4
  cases hg with
  | arr hn hg => exact .inr (.inr (.inl ⟨e0, _, _, e4, r, hg, hk.1, hk.2, rfl⟩))
 | named h hd r =>
  obtain ⟨e0, _, _, _, e4, _⟩ := hbk.inj6 h
  simp only [Value.int.injEq, true_and, Value.pointer.injEq] at e0 e4
  subst e0
  cases hg with
  | named hi hg => exact .inr (.inl ⟨⟨.inr (.inl rfl), rfl, rfl, rfl, rfl, rfl⟩, _, _, e4, r, hg, hk, rfl⟩)
 | cst h hd r =>
  obtain ⟨e0, _, _, _, e4, _⟩ := hbk.inj6 h
  simp only [Value.int.injEq, true_and, Value.pointer.injEq] at e0 e4
  subst e0
  cases hg with
  | cst hi hg => exact .inr (.inl ⟨⟨.inr (.inr rfl), rfl, rfl, rfl, rfl, rfl⟩, _, _, e4, r, hg, hk, rfl⟩)
 | enm h hd ho hv hr =>
  obtain ⟨e0, _, _, _, _, e5⟩ := hbk.inj6 h
  simp only [Value.int.injEq, true_and] at e0
  subst e5
  cases hg with
  | enm hn => exact .inr (.inr (.inr (.inl ⟨e0, rfl, _, _, _, _, hn, ho, hv, hr⟩)))
 | @comp b sz' n un nm' pn py pa pb v xs pc h hd ho hv hr hc =>
  obtain ⟨e0, _, _, _, _, e5⟩ := hbk.inj6 h
  simp only [Value.int.injEq, true_and] at e0
  subst e5
  cases hg with
  | comp hs hn ha hg =>
   refine .inr (.inr (.inr (.inr ⟨?_, n, pn, py, pa, pb, xs, pc, hn, ho, hv, hr, fun i hi => ⟨hc i hi, hg i hi, hk i hi⟩, rfl⟩)))
   cases un
   ·subst e0; exact ⟨.inl rfl, rfl, rfl⟩
   ·subst e0; exact ⟨.inr rfl, rfl, rfl⟩
def MemX (X : Nat → Prop) (xk : Nat) (mv : Value) (g : Nat) : Prop := X g ∨ g = xk ∨ mv.ownBlock = some g
structure MemSt (W : World) (lb mb : Nat) (ixv : Value) (hb n : Nat) (v : Value) (xs : List Value) (m : Value → Option Value) (U : Nat → Prop) (w : World) (b : Nat) (X : Nat → Prop) (xk : Nat) (k0 : Int) (nm : ByteArray) (sz fl : Int)
  (k n' : Nat) (v' : Value) (xs' : List Value) (m' : Value → Option Value) (mv : Value) (ys : List Value) (w' : World) : Prop where
 pre : Pre W lb mb ixv hb n v xs m U w b (MemX X xk mv) n' v' xs' m' w'
 blk : Blk w' xk #[.int .i64 k0, .string nm, .int .i64 sz, .int .i64 0, .int .i64 fl, .int .i64 0, .int .i64 0, mv] 72
 own : w'.ownsRow (xk + 1) 74 5 mv k ys
 lo : w.heap.size ≤ xk
 xlt : ∀ g, X g → g < w.heap.size
section
variable {W w w' w2 : World} {lb mb : Nat} {ixv : Value} {hb n : Nat} {v : Value} {xs : List Value} {m : Value → Option Value} {U : Nat → Prop} {b : Nat} {X : Nat → Prop} {xk : Nat} {k0 : Int} {nm : ByteArray} {sz fl : Int} {k n' : Nat} {v' : Value} {xs' : List Value} {m' : Value → Option Value} {mv : Value} {ys : List Value}
theorem MemSt.new (st : MemSt W lb mb ixv hb n v xs m U w b X xk k0 nm sz fl k n' v' xs' m' mv ys w') (hbl : Below w'.heap.size w' w2) : MemSt W lb mb ixv hb n v xs m U w b X xk k0 nm sz fl k n' v' xs' m' mv ys w2 :=
 ⟨st.pre.new hbl (fun g hg => ⟨.inl hg, Nat.lt_of_lt_of_le (st.pre.st.xs g hg).2.1 hbl.size⟩), st.blk.old hbl, ownsRow_of st.own fun g _ hl => hbl.block g hl, st.lo, st.xlt⟩
theorem MemSt.call {x : Value} {c : Nat} {e : Ending} (st : MemSt W lb mb ixv hb n v xs m U w b X xk k0 nm sz fl k n' v' xs' m' mv ys w') (h : PutPost W lb mb ixv hb (MemX X xk mv) n' v' xs' m' (fun i => U i ∨ i = n) w' x c e w2) :
  ∃ i n2 v2 xs2 m2, e = .returned (.int .i64 ((i + 1 : Nat) : Int)) ∧ MemSt W lb mb ixv hb n v xs m U w b X xk k0 nm sz fl k n2 v2 xs2 m2 mv ys w2 ∧ n2 ≤ n' + c ∧ (∀ x u, m' x = some u → m2 x = some u) ∧ m2 x = some (.int .i64 ((i + 1 : Nat) : Int)) ∧ Kept (Wr lb mb v') w' w2 := by
 obtain ⟨i, n2, v2, xs2, m2, rfl, p9, hn2, hm2, hme2, hk9, _⟩ := st.pre.call h
 have hX : ∀ g, MemX X xk mv g → ¬ Wr lb mb v' g := fun g hg => st.pre.st.apart hg
 exact ⟨i, n2, v2, xs2, m2, rfl, ⟨p9, hk9.blk st.blk (hX _ (.inr (.inl rfl))), hk9.own st.own (fun g hg => hX _ (.inr (.inr hg))), st.lo, st.xlt⟩, hn2, hm2, hme2, hk9⟩
theorem MemSt.push {w0 w1 : World} {g cap : Nat} {news : List Value} (st : MemSt W lb mb ixv hb n v xs m U w b X xk k0 nm sz fl k n' v' xs' m' mv ys w') (h0 : Below w'.heap.size w' w0) (ha : Appended w0 (xk + 1) 74 5 mv k 1 ys news g cap w1) :
  MemSt W lb mb ixv hb n v xs m U w b X xk k0 nm sz fl (k + 1) n' v' xs' m' (.slice (some ⟨g, 0, none⟩) (k + 1) cap) (ys ++ news) (w1.setCell ⟨xk, 7, none⟩ (.slice (some ⟨g, 0, none⟩) (k + 1) cap)) := by
 have hown0 : w0.ownsRow (xk + 1) 74 5 mv k ys := ownsRow_of st.own fun g _ hl => h0.block g hl
 have hs0 := h0.size
 have hs1 := ha.2.1.size
 have hg1 : xk + 1 ≤ g := (ha.1.lt g rfl).1
 have hml : ∀ g, mv.ownBlock = some g → xk + 1 ≤ g ∧ g < w'.heap.size := fun g hg => st.own.lt g hg
 have hWx : W.heap.size ≤ xk := (st.pre.st.xs xk (.inr (.inl rfl))).1
 have hstay : ∀ h, h < w'.heap.size → h ≠ xk → mv.ownBlock ≠ some h → (w1.setCell ⟨xk, 7, none⟩ (.slice (some ⟨g, 0, none⟩) (k + 1) cap)).heap[h]? = w'.heap[h]? := fun h hh h1 h2 => by
  rw [Below.heap_setCell _ _ _ _ h1, ha.2.1.block h (by omega) (fun x => h2 x.symm), h0.block h hh]
 refine ⟨st.pre.move (fun h hh hd => hstay h hh (fun x => hd (.inr (.inl x))) (fun x => hd (.inr (.inr x)))) ?_ (fun h hh => ⟨?_, ?_⟩) (fun h hh => ?_), ?_, ?_, st.lo, st.xlt⟩
 ·exact (ha.below hown0 (h0.mono (by have := st.pre.st.old.size; omega)) (by have := st.pre.st.old.size; omega) (by omega)).setCell hWx _
 ·rcases hh with hh | hh | hh
  ·exact .inl (.inl hh)
  ·exact .inl (.inr (.inl hh))
  ·have e : g = h := by simpa [Value.ownBlock] using hh
   rcases ha.2.2.1 with x | x
   ·exact .inl (.inr (.inr (by rw [x, e])))
   ·exact .inr (by omega)
 ·rcases hh with hh | hh | hh
  ·have := (st.pre.st.xs h (.inl hh)).2.1; simp; omega
  ·have := (st.pre.st.xs h (.inr (.inl hh))).2.1; simp; omega
  ·have e : g = h := by simpa [Value.ownBlock] using hh
   have := ha.2.2.2
   simp; omega
 ·have := st.pre.kept.1
  have := st.lo
  exact hstay h (by omega) (by omega) (fun x => by have := hml h x; omega)
 ·exact ((st.blk.old h0).app ha hown0 (Nat.lt_succ_self _)).set 7 _
 ·exact ownsRow_setCell ha.1 (fun x => by simp [Value.ownBlock] at x; omega) _
theorem MemSt.hv (st : MemSt W lb mb ixv hb n v xs m U w b X xk k0 nm sz fl k n' v' xs' m' mv ys w') : ∀ g, mv.ownBlock = some g → ¬ (Wr lb mb v' g ∨ X g) := by
 intro g hg hd
 have hl := st.own.lt g hg
 rcases hd with hd | hd
 ·exact st.pre.st.apart (.inr (.inr hg)) hd
 ·have := st.xlt g hd
  have := st.lo
  omega
end
theorem MemSt.start {W w w' : World} {lb mb : Nat} {ixv : Value} {hb n : Nat} {v : Value} {xs : List Value} {m : Value → Option Value} {U : Nat → Prop} {b : Nat} {X : Nat → Prop} {xk : Nat} {k0 : Int} {nm : ByteArray} {sz fl : Int} {n' : Nat} {v' : Value} {xs' : List Value} {m' : Value → Option Value}
  (p : Pre W lb mb ixv hb n v xs m U w b (fun g => X g ∨ g = xk) n' v' xs' m' w') (hbk : Blk w' xk #[.int .i64 k0, .string nm, .int .i64 sz, .int .i64 0, .int .i64 fl, .int .i64 0, .int .i64 0, .slice none 0 0] 72) (lo : w.heap.size ≤ xk) (xlt : ∀ g, X g → g < w.heap.size) :
  MemSt W lb mb ixv hb n v xs m U w b X xk k0 nm sz fl 0 n' v' xs' m' (.slice none 0 0) [] w' :=
 ⟨p.less (fun g hg => by
  rcases hg with h | h | h
  ·exact .inl h
  ·exact .inr h
  ·simp [Value.ownBlock] at h), hbk, World.ownsRow_nil _ _ _ _, lo, xlt⟩
def EnmRows (W : World) (pv : Value) (k : Nat) (ys : List Value) : Prop := ∀ j, j < k → ∃ nm o a b v, PartAt W pv j nm o a b v ∧ PRow ys j nm (.int .i64 0) 0 0 v
def CompRows (W : World) (pv : Value) (m : Value → Option Value) (k : Nat) (ys : List Value) : Prop := ∀ j, j < k → ∃ nm o a b v q, PartAt W pv j nm o a b v ∧ m o = some (.int .i64 (q : Nat)) ∧ PRow ys j nm (.int .i64 (q : Nat)) a b 0
theorem EnmRows.push {W : World} {pv : Value} {k : Nat} {ys : List Value} (h : EnmRows W pv k ys) (hl : ys.length = k * 5) {nm : ByteArray} {o : Value} {a b v : Int} (hp : PartAt W pv k nm o a b v) :
  EnmRows W pv (k + 1) (ys ++ [.string nm, .int .i64 0, .int .i64 0, .int .i64 0, .int .i64 v]) := by
 intro j hj
 by_cases h1 : j < k
 ·obtain ⟨nm, o, a, b, v, h2, h3⟩ := h j h1
  exact ⟨nm, o, a, b, v, h2, h3.left hl h1⟩
 ·obtain rfl : j = k := by omega
  exact ⟨_, _, _, _, _, hp, PRow.last _ _ _ _ _ hl⟩
theorem CompRows.push {W : World} {pv : Value} {m m' : Value → Option Value} {k : Nat} {ys : List Value} (h : CompRows W pv m k ys) (hm : ∀ x u, m x = some u → m' x = some u) (hl : ys.length = k * 5) {nm : ByteArray} {o : Value} {a b v : Int} {q : Nat} (hp : PartAt W pv k nm o a b v) (hq : m' o = some (.int .i64 (q : Nat))) :
  CompRows W pv m' (k + 1) (ys ++ [.string nm, .int .i64 q, .int .i64 a, .int .i64 b, .int .i64 0]) := by
 intro j hj
 by_cases h1 : j < k
 ·obtain ⟨nm, o, a, b, v, q, h2, h3, h4⟩ := h j h1
  exact ⟨nm, o, a, b, v, q, h2, hm _ _ h3, h4.left hl h1⟩
 ·obtain rfl : j = k := by omega
  exact ⟨_, _, _, _, _, q, hp, hq, PRow.last _ _ _ _ _ hl⟩
theorem PutC.int_cnt : (Ty.int 4 false ⟨#[117, 52]⟩).cnt = 1 := rfl
def KindOk (k : Int) : Prop := k = 1 ∨ k = 2 ∨ k = 3 ∨ k = 4 ∨ k = 5 ∨ k = 6 ∨ k = 8 ∨ k = 10
structure RowFits (w : World) (D : Nat → Prop) (xs : List Value) (n i : Nat) (k : Int) (nm : ByteArray) (sz en fl : Int) (of ix : Nat) (mv : Value) (q : Nat) (ys : List Value) : Prop where
 row : LRow xs i k nm sz en fl of ix mv
 kind : KindOk k
 hsz : 0 ≤ sz ∧ sz < 4294967296
 hen : en = 0 ∨ en = 1
 hfl : fl = 0 ∨ fl = 1
 hof : of ≤ n
 hix : ix ≤ n
 own : w.ownsRow 0 74 5 mv q ys
 few : q ≤ 1000
 far : ∀ g, mv.ownBlock = some g → ¬ D g
 mem : ∀ j, j < q → ∃ (nm : ByteArray) (o : Nat) (a b v : Int), PRow ys j nm (.int .i64 o) a b v ∧ o ≤ n ∧ (0 ≤ a ∧ a < 4294967296) ∧ (0 ≤ b ∧ b < 4294967296)
 some1 : (k = 2 ∨ k = 3 ∨ k = 8 ∨ k = 10 → 1 ≤ of) ∧ (k = 3 → 1 ≤ ix)
 some2 : k = 4 ∨ k = 5 → ∀ j, j < q → ∀ nm o a b v, PRow ys j nm (.int .i64 ((o : Nat) : Int)) a b v → 1 ≤ o
 peel : k = 8 ∨ k = 10 → ∃ j, j < n ∧ of = j + 1 ∧ xs[8 * j]? = some (.int .i64 1)
theorem RowOk.kind {W w : World} {D : Nat → Prop} {xs : List Value} {m : Value → Option Value} {ixv : Value} {b i : Nat} {k : Int} {nm : ByteArray} {sz : Int} {sg : Bool} {o pv : Value} (r : RowOk W w D xs m ixv b i)
  (h : Blk W b #[.int .i64 k, .string nm, .int .i64 sz, .bool sg, o, pv] 38) : xs[8 * i]? = some (.int .i64 k) := by
 cases r with
 | int h' l => have := (h.inj6 h').1; rw [this]; exact l.1
 | of hk h' hm l => have := (h.inj6 h').1; rw [this]; exact l.1
 | arr h' hm hx l => have := (h.inj6 h').1; rw [this]; exact l.1
 | enm h' hp ho hv hr l => have := (h.inj6 h').1; rw [this]; exact l.1
 | comp hk h' hp ho hv hr l => have := (h.inj6 h').1; rw [this]; exact l.1
theorem LSt.fits {W w : World} {lb mb : Nat} {ixv : Value} {hb n : Nat} {X : Nat → Prop} {v : Value} {xs : List Value} {m : Value → Option Value} (st : LSt W lb mb ixv hb X n v xs m (fun _ => False) w) (i : Nat) (hi : i < n) :
  ∃ k nm sz en fl of ix mv q ys, RowFits w (Wr lb mb v) xs n i k nm sz en fl of ix mv q ys := by
 have num : ∀ x (z : Nat), m x = some (.int .i64 (z : Int)) → z ≤ n ∧ 1 ≤ z := fun x z hx => by
  obtain ⟨_, j, _, _, h2, h3, _⟩ := st.key x _ hx
  simp only [Value.int.injEq, true_and] at h2
  exact ⟨by omega, by omega⟩
 have nilFar : ∀ g, (Value.slice none 0 0).ownBlock = some g → ¬ Wr lb mb v g := fun g hg => by simp [Value.ownBlock] at hg
 have nilMem : ∀ j, j < 0 → ∃ (nm : ByteArray) (o : Nat) (a b v : Int), PRow [] j nm (.int .i64 o) a b v ∧ o ≤ n ∧ (0 ≤ a ∧ a < 4294967296) ∧ (0 ≤ b ∧ b < 4294967296) := fun j hj => by omega
 obtain ⟨b, hmb⟩ := st.row i hi
 obtain ⟨b', i', t, e1, e2, _, r, hg, hro⟩ := st.key _ _ hmb
 simp only [Value.pointer.injEq, Option.some.injEq, Addr.mk.injEq, and_true] at e1
 simp only [Value.int.injEq, true_and] at e2
 obtain rfl : i' = i := by omega
 subst e1
 rcases hro with hro | hro
 ·exact hro.elim
 ·cases hro with
  | @int nm sz sg o pv h l =>
   have hs : 0 ≤ sz ∧ sz < 4294967296 := by
    cases r with
    | int h' _ =>
     obtain ⟨_, _, e, _⟩ := h.inj6 h'
     simp only [Value.int.injEq, true_and] at e
     cases hg with
     | int hz => omega
    | ptr h' _ _ => have := (h.inj6 h').1; simp at this
    | arr h' _ _ => have := (h.inj6 h').1; simp at this
    | named h' _ _ => have := (h.inj6 h').1; simp at this
    | cst h' _ _ => have := (h.inj6 h').1; simp at this
    | enm h' _ _ _ _ => have := (h.inj6 h').1; simp at this
    | @comp _ _ _ un _ _ _ _ _ _ _ _ h' _ _ _ _ _ => have := (h.inj6 h').1; cases un <;> simp at this
   exact ⟨_, _, _, _, _, 0, 0, _, 0, [], l, .inl rfl, hs, by cases sg <;> simp, .inl rfl, Nat.zero_le _, Nat.zero_le _, World.ownsRow_nil _ _ _ _, Nat.zero_le _, nilFar, nilMem, ⟨fun h => by omega, fun h => by omega⟩, fun h => by omega, fun h => by omega⟩
  | @of k nm sz sg o pv z hk h hm l =>
   have hko : KindOk k := by rcases hk with h | h | h <;> simp [KindOk, h]
   have hpl : k = 8 ∨ k = 10 → ∃ j, j < n ∧ z = j + 1 ∧ xs[8 * j]? = some (.int .i64 1) := by
    intro h8
    have key : ∀ (c : Nat) (u : Ty), o = .pointer (some ⟨c, 0, none⟩) → Rep W (Ex lb mb hb) c u → (∃ sz sg im, u = .int sz sg im) → ∃ j, j < n ∧ z = j + 1 ∧ xs[8 * j]? = some (.int .i64 1) := by
     rintro c u rfl rc ⟨sz', sg', im', rfl⟩
     obtain ⟨c', j, t', f1, f2, hj, _, _, hro⟩ := st.key _ _ hm
     simp only [Value.pointer.injEq, Option.some.injEq, Addr.mk.injEq, and_true] at f1
     simp only [Value.int.injEq, true_and] at f2
     subst f1
     cases rc with
     | int hc _ =>
      rcases hro with hro | hro
      ·exact hro.elim
      ·exact ⟨j, hj, by omega, hro.kind hc⟩
    cases r with
    | int h' _ => have := (h.inj6 h').1; simp at this; omega
    | ptr h' _ _ => have := (h.inj6 h').1; simp at this; omega
    | arr h' _ _ => have := (h.inj6 h').1; simp at this; omega
    | named h' _ rc =>
     obtain ⟨_, _, _, _, e, _⟩ := h.inj6 h'
     cases hg with
     | named hu _ => exact key _ _ e rc hu
    | cst h' _ rc =>
     obtain ⟨_, _, _, _, e, _⟩ := h.inj6 h'
     cases hg with
     | cst hu _ => exact key _ _ e rc hu
    | enm h' _ _ _ _ => have := (h.inj6 h').1; simp at this; omega
    | @comp _ _ _ un _ _ _ _ _ _ _ _ h' _ _ _ _ _ => have := (h.inj6 h').1; cases un <;> simp at this <;> omega
   exact ⟨k, _, 0, 0, 0, z, 0, _, 0, [], l, hko, by omega, .inl rfl, .inl rfl, (num _ _ hm).1, Nat.zero_le _, World.ownsRow_nil _ _ _ _, Nat.zero_le _, nilFar, nilMem, ⟨fun _ => (num _ _ hm).2, fun h => by rcases hk with e | e | e <;> rw [e] at h <;> simp at h⟩, fun _ j hj => by omega, hpl⟩
  | @arr nm sz sg o pv z zx h hm hx l =>
   have hs : 0 ≤ sz ∧ sz < 4294967296 := by
    cases r with
    | int h' _ => have := (h.inj6 h').1; simp at this
    | ptr h' _ _ => have := (h.inj6 h').1; simp at this
    | arr h' _ _ =>
     obtain ⟨_, _, e, _⟩ := h.inj6 h'
     simp only [Value.int.injEq, true_and] at e
     cases hg with
     | arr hz _ => omega
    | named h' _ _ => have := (h.inj6 h').1; simp at this
    | cst h' _ _ => have := (h.inj6 h').1; simp at this
    | enm h' _ _ _ _ => have := (h.inj6 h').1; simp at this
    | @comp _ _ _ un _ _ _ _ _ _ _ _ h' _ _ _ _ _ => have := (h.inj6 h').1; cases un <;> simp at this
   exact ⟨_, _, _, _, _, z, zx, _, 0, [], l, .inr (.inr (.inl rfl)), hs, .inl rfl, .inl rfl, (num _ _ hm).1, (num _ _ hx).1, World.ownsRow_nil _ _ _ _, Nat.zero_le _, nilFar, nilMem, ⟨fun _ => (num _ _ hm).2, fun _ => (num _ _ hx).2⟩, fun _ j hj => by omega, fun h => by omega⟩
  | @enm nm sz sg o pv mv q ys h hp ho hv hr l =>
   have hs : (0 ≤ sz ∧ sz < 4294967296) ∧ q ≤ 1000 := by
    cases r with
    | int h' _ => have := (h.inj6 h').1; simp at this
    | ptr h' _ _ => have := (h.inj6 h').1; simp at this
    | arr h' _ _ => have := (h.inj6 h').1; simp at this
    | named h' _ _ => have := (h.inj6 h').1; simp at this
    | cst h' _ _ => have := (h.inj6 h').1; simp at this
    | enm h' _ ho' _ _ =>
     obtain ⟨_, _, e, _, _, e5⟩ := h.inj6 h'
     simp only [Value.int.injEq, true_and] at e
     cases hg with
     | enm hn =>
      obtain ⟨_, _, rfl⟩ := hp
      obtain ⟨_, _, e6⟩ := own_slice ho'
      rw [e6] at e5
      simp only [Value.slice.injEq] at e5
      exact ⟨by omega, by omega⟩
    | @comp _ _ _ un _ _ _ _ _ _ _ _ h' _ _ _ _ _ => have := (h.inj6 h').1; cases un <;> simp at this
   exact ⟨_, _, _, _, _, 0, 0, mv, q, ys, l, .inr (.inr (.inr (.inr (.inr (.inl rfl))))), hs.1, .inl rfl, by cases sg <;> simp, Nat.zero_le _, Nat.zero_le _, ho, hs.2, fun g hg hd => hv g hg (.inl hd),
    fun j hj => by obtain ⟨nm, o, a, b, v, _, h2⟩ := hr j hj; exact ⟨nm, 0, 0, 0, v, h2, Nat.zero_le _, by omega, by omega⟩, ⟨fun h => by omega, fun h => by omega⟩, fun h => by omega, fun h => by omega⟩
  | @comp k nm sz sg o pv mv q ys hk h hp ho hv hr l =>
   have hs : (0 ≤ sz ∧ sz < 4294967296) ∧ q ≤ 1000 ∧ ∀ j, j < q → ∀ nm o a b v, PartAt W pv j nm o a b v → (0 ≤ a ∧ a < 4294967296) ∧ (0 ≤ b ∧ b < 4294967296) := by
    cases r with
    | int h' _ => have := (h.inj6 h').1; simp at this; omega
    | ptr h' _ _ => have := (h.inj6 h').1; simp at this; omega
    | arr h' _ _ => have := (h.inj6 h').1; simp at this; omega
    | named h' _ _ => have := (h.inj6 h').1; simp at this; omega
    | cst h' _ _ => have := (h.inj6 h').1; simp at this; omega
    | enm h' _ _ _ _ => have := (h.inj6 h').1; simp at this; omega
    | @comp _ _ _ un _ _ _ _ _ _ _ _ h' _ ho' _ hr' _ =>
     obtain ⟨_, _, e, _, _, e5⟩ := h.inj6 h'
     simp only [Value.int.injEq, true_and] at e
     cases hg with
     | comp hsz hn ha _ =>
      obtain ⟨_, _, rfl⟩ := hp
      obtain ⟨_, _, e6⟩ := own_slice ho'
      rw [e6] at e5
      simp only [Value.slice.injEq] at e5
      refine ⟨by omega, by omega, fun j hj nm o a b v hpt => ?_⟩
      have hj' := e5.2.1 ▸ hj
      have hp' := PartAt.of ho' (hr' j hj') hj'
      rw [e6, ← e5.1, ← e5.2.1, ← e5.2.2] at hp'
      obtain ⟨_, _, ea, eb, _⟩ := hpt.uniq hp'
      have := ha j hj'
      omega
   exact ⟨k, _, sz, 0, 0, 0, 0, mv, q, ys, l, by unfold KindOk; omega, hs.1, .inl rfl, .inl rfl, Nat.zero_le _, Nat.zero_le _, ho, hs.2.1, fun g hg hd => hv g hg (.inl hd),
    fun j hj => by obtain ⟨nm, o, a, b, v, z, h1, h2, h3⟩ := hr j hj; have := hs.2.2 j hj _ _ _ _ _ h1; exact ⟨nm, z, a, b, 0, h3, (num _ _ h2).1, this.1, this.2⟩, ⟨fun h => by omega, fun h => by omega⟩,
    fun _ j hj nm' o' a' b' v' hp => by
     obtain ⟨_, _, _, _, _, z, _, h2, h3⟩ := hr j hj
     have e := hp.2.1.symm.trans h3.2.1
     simp only [Option.some.injEq, Value.int.injEq, true_and] at e
     have := (num _ _ h2).2
     omega,
    fun h => by omega⟩
end Go.Proofs.YtfilbgmbmlmdbaaGreatDoor
