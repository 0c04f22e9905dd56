/- The list of a type's types: words and plain lemmas for the walk of listed. Nothing is claimed here. -/
import Derived.Test.YtfilbgmbmlmdbaaGreatDoorTurnB
import Derived.Test.YtfilbgmbmlmdbaaGreatDoorMapl
namespace Go.Proofs.YtfilbgmbmlmdbaaGreatDoor
open Go.RowKit

def sumTo (f : Nat → Nat) : Nat → Nat
  | 0 => 0
  | n + 1 => sumTo f n + f n
/-- How many numbers a type wants, at most. -/
def Ty.cnt : Ty → Nat
  | .int .. => 1
  | .ptr t => t.cnt + 1
  | .arr _ t => t.cnt + 2
  | .named _ t => t.cnt + 1
  | .cst t => t.cnt + 1
  | .enm .. => 1
  | .comp _ _ _ n _ py _ _ => sumTo (fun i => (py i).cnt) n + 1
theorem sumTo_mono (f : Nat → Nat) {i n : Nat} (h : i ≤ n) : sumTo f i ≤ sumTo f n := by
  induction n with
  | zero => obtain rfl : i = 0 := by omega
            exact Nat.le_refl _
  | succ n ih =>
    by_cases h2 : i = n + 1
    · subst h2; exact Nat.le_refl _
    · exact Nat.le_trans (ih (by omega)) (Nat.le_add_right _ _)
theorem sumTo_le (f : Nat → Nat) (n M : Nat) (h : ∀ i, i < n → f i ≤ M) : sumTo f n ≤ n * M := by
  induction n with
  | zero => simp [sumTo]
  | succ n ih =>
    have h1 := ih fun i hi => h i (by omega)
    have h2 := h n (by omega)
    rw [Nat.succ_mul]
    exact Nat.add_le_add h1 h2

/-- Types whose numbers have room; names and what qualifies are of ints. -/
inductive Good : Ty → Prop
  | int {sz : Nat} {sg : Bool} {nm : ByteArray} (h : sz ≤ 8) : Good (.int sz sg nm)
  | ptr {t : Ty} (h : Good t) : Good (.ptr t)
  | arr {n : Nat} {t : Ty} (hn : n < 4294967296) (h : Good t) : Good (.arr n t)
  | named {nm : ByteArray} {t : Ty} (hi : ∃ sz sg im, t = .int sz sg im) (h : Good t) : Good (.named nm t)
  | cst {t : Ty} (hi : ∃ sz sg im, t = .int sz sg im) (h : Good t) : Good (.cst t)
  | enm {nm : ByteArray} {sg : Bool} {n : Nat} {vn : Nat → ByteArray} {vv : Nat → Int} (hn : n ≤ 1000) : Good (.enm nm sg n vn vv)
  | comp {un : Bool} {nm : ByteArray} {sz n : Nat} {pn : Nat → ByteArray} {py : Nat → Ty} {pa pb : Nat → Nat} (hs : sz < 4294967296) (hn : n ≤ 1000)
      (ha : ∀ i, i < n → pa i < 4294967296 ∧ pb i < 4294967296) (h : ∀ i, i < n → Good (py i)) : Good (.comp un nm sz n pn py pa pb)

/-- Row i of the list: eight cells. -/
def LRow (xs : List Value) (i : Nat) (k : Int) (nm : ByteArray) (sz en fl of ix : Int) (mv : Value) : Prop :=
  xs[8 * i]? = some (.int .i64 k) ∧ xs[8 * i + 1]? = some (.string nm) ∧ xs[8 * i + 2]? = some (.int .i64 sz) ∧ xs[8 * i + 3]? = some (.int .i64 en) ∧
  xs[8 * i + 4]? = some (.int .i64 fl) ∧ xs[8 * i + 5]? = some (.int .i64 of) ∧ xs[8 * i + 6]? = some (.int .i64 ix) ∧ xs[8 * i + 7]? = some mv
theorem LRow.same {xs xs' : List Value} {i : Nat} {k : Int} {nm : ByteArray} {sz en fl of ix : Int} {mv : Value} (h : LRow xs i k nm sz en fl of ix mv) (hx : ∀ j, j < 8 → xs'[8 * i + j]? = xs[8 * i + j]?) : LRow xs' i k nm sz en fl of ix mv := by
  obtain ⟨h0, h1, h2, h3, h4, h5, h6, h7⟩ := h
  exact ⟨(hx 0 (by omega)).trans h0, (hx 1 (by omega)).trans h1, (hx 2 (by omega)).trans h2, (hx 3 (by omega)).trans h3, (hx 4 (by omega)).trans h4, (hx 5 (by omega)).trans h5, (hx 6 (by omega)).trans h6, (hx 7 (by omega)).trans h7⟩

/-- Part j of a slice of parts, as a world has it. -/
def PartAt (W : World) (pv : Value) (j : Nat) (nm : ByteArray) (o : Value) (a b v : Int) : Prop :=
  ∃ g n cap, pv = .slice (some ⟨g, 0, none⟩) n cap ∧ j < n ∧ g < W.heap.size ∧ W.cell? ⟨g, j * 5, none⟩ = some (.string nm) ∧ W.cell? ⟨g, j * 5 + 1, none⟩ = some o ∧ W.cell? ⟨g, j * 5 + 2, none⟩ = some (.int .i64 a) ∧
    W.cell? ⟨g, j * 5 + 3, none⟩ = some (.int .i64 b) ∧ W.cell? ⟨g, j * 5 + 4, none⟩ = some (.int .i64 v)
theorem PartAt.of {W : World} {pv : Value} {n j : Nat} {xs : List Value} {nm : ByteArray} {o : Value} {a b v : Int} (ho : W.ownsRow 0 56 5 pv n xs) (hr : PRow xs j nm o a b v) (hj : j < n) : PartAt W pv j nm o a b v := by
  obtain ⟨g, cap, rfl, hg⟩ := own_form ho (by omega)
  obtain ⟨h0, h1, h2, h3, h4⟩ := row_cells ho hr
  exact ⟨g, n, cap, rfl, hj, hg, h0, h1, h2, h3, h4⟩
theorem PartAt.uniq {W : World} {pv : Value} {j : Nat} {nm nm' : ByteArray} {o o' : Value} {a b v a' b' v' : Int} (h : PartAt W pv j nm o a b v) (h' : PartAt W pv j nm' o' a' b' v') : nm = nm' ∧ o = o' ∧ a = a' ∧ b = b' ∧ v = v' := by
  obtain ⟨g, n, cap, rfl, _, _, h0, h1, h2, h3, h4⟩ := h
  obtain ⟨g', n', cap', e, _, _, k0, k1, k2, k3, k4⟩ := h'
  cases e
  rw [h0] at k0; rw [h1] at k1; rw [h2] at k2; rw [h3] at k3; rw [h4] at k4
  cases k0; cases k1; cases k2; cases k3; cases k4
  exact ⟨rfl, rfl, rfl, rfl, rfl⟩

/-- Row i says what block b of the world W says, with the numbers that m tells. -/
inductive RowOk (W w : World) (D : Nat → Prop) (xs : List Value) (m : Value → Option Value) (ixv : Value) (b i : Nat) : Prop
  | int {nm : ByteArray} {sz : Int} {sg : Bool} {o pv : Value} (h : Blk W b #[.int .i64 1, .string nm, .int .i64 sz, .bool sg, o, pv] 38) (l : LRow xs i 1 nm sz (if sg then 1 else 0) 0 0 0 (.slice none 0 0))
  | of {k : Int} {nm : ByteArray} {sz : Int} {sg : Bool} {o pv : Value} {n : Nat} (hk : k = 2 ∨ k = 8 ∨ k = 10) (h : Blk W b #[.int .i64 k, .string nm, .int .i64 sz, .bool sg, o, pv] 38) (hm : m o = some (.int .i64 n))
      (l : LRow xs i k nm 0 0 0 n 0 (.slice none 0 0))
  | arr {nm : ByteArray} {sz : Int} {sg : Bool} {o pv : Value} {n x : Nat} (h : Blk W b #[.int .i64 3, .string nm, .int .i64 sz, .bool sg, o, pv] 38) (hm : m o = some (.int .i64 n)) (hx : m ixv = some (.int .i64 x))
      (l : LRow xs i 3 nm sz 0 0 n x (.slice none 0 0))
  | enm {nm : ByteArray} {sz : Int} {sg : Bool} {o pv mv : Value} {n : Nat} {ys : List Value} (h : Blk W b #[.int .i64 6, .string nm, .int .i64 sz, .bool sg, o, pv] 38) (hp : ∃ a cap, pv = .slice a n cap)
      (ho : w.ownsRow 0 74 5 mv n ys) (hv : ∀ g, mv.ownBlock = some g → ¬ D g) (hr : ∀ j, j < n → ∃ nm o a b v, PartAt W pv j nm o a b v ∧ PRow ys j nm (.int .i64 0) 0 0 v)
      (l : LRow xs i 6 nm sz 0 (if sg then 1 else 0) 0 0 mv)
  | comp {k : Int} {nm : ByteArray} {sz : Int} {sg : Bool} {o pv mv : Value} {n : Nat} {ys : List Value} (hk : k = 4 ∨ k = 5) (h : Blk W b #[.int .i64 k, .string nm, .int .i64 sz, .bool sg, o, pv] 38) (hp : ∃ a cap, pv = .slice a n cap)
      (ho : w.ownsRow 0 74 5 mv n ys) (hv : ∀ g, mv.ownBlock = some g → ¬ D g) (hr : ∀ j, j < n → ∃ nm o a b v q, PartAt W pv j nm o a b v ∧ m o = some (.int .i64 (q : Nat)) ∧ PRow ys j nm (.int .i64 (q : Nat)) a b 0)
      (l : LRow xs i k nm sz 0 0 0 0 mv)

theorem RowOk.mono {W w w' : World} {D D' : Nat → Prop} {xs xs' : List Value} {m m' : Value → Option Value} {ixv : Value} {b i : Nat} (r : RowOk W w D xs m ixv b i) (hx : ∀ j, j < 8 → xs'[8 * i + j]? = xs[8 * i + j]?)
    (hm : ∀ x u, m x = some u → m' x = some u) (hw : ∀ g, g < w.heap.size → ¬ D g → w'.heap[g]? = w.heap[g]?) (hD : ∀ g, g < w.heap.size → D' g → D g) : RowOk W w' D' xs' m' ixv b i := by
  cases r with
  | int h l => exact .int h (l.same hx)
  | of hk h hmo l => exact .of hk h (hm _ _ hmo) (l.same hx)
  | arr h hmo hmx l => exact .arr h (hm _ _ hmo) (hm _ _ hmx) (l.same hx)
  | enm h hp ho hv hr l => exact .enm h hp (ownsRow_of ho fun g hg hl => hw g hl (hv g hg)) (fun g hg x => hv g hg (hD g (ho.lt g hg).2 x)) hr (l.same hx)
  | comp hk h hp ho hv hr l =>
    exact .comp hk h hp (ownsRow_of ho fun g hg hl => hw g hl (hv g hg)) (fun g hg x => hv g hg (hD g (ho.lt g hg).2 x))
      (fun j hj => by obtain ⟨nm, o, a, b, v, q, h1, h2, h3⟩ := hr j hj; exact ⟨nm, o, a, b, v, q, h1, hm _ _ h2, h3⟩) (l.same hx)

/-- The blocks that listed writes, beside new ones. -/
def Wr (lb mb : Nat) (v : Value) (g : Nat) : Prop := g = lb ∨ g = mb ∨ v.ownBlock = some g
/-- The blocks that listed writes of those that stood when put was first called: the list's head, the map, the empty list. -/
def Ex (lb mb hb g : Nat) : Prop := g = lb ∨ g = mb ∨ g = hb
/-- All other blocks are as they were. -/
structure Old (W : World) (lb mb hb : Nat) (w : World) : Prop where
  os : w.os = W.os
  tape : w.tape = W.tape
  output : w.output = W.output
  size : W.heap.size ≤ w.heap.size
  block : ∀ k, k < W.heap.size → ¬ Ex lb mb hb k → w.heap[k]? = W.heap[k]?
section
variable {W w w' : World} {lb mb hb : Nat}
theorem Old.refl (W : World) (lb mb hb : Nat) : Old W lb mb hb W := ⟨rfl, rfl, rfl, Nat.le_refl _, fun _ _ _ => rfl⟩
theorem Old.below (h : Old W lb mb hb w) (b : Below W.heap.size w w') : Old W lb mb hb w' :=
  ⟨b.os.trans h.os, b.tape.trans h.tape, b.output.trans h.output, Nat.le_trans h.size b.size, fun k hk he => (b.block k hk).trans (h.block k hk he)⟩
theorem Old.grown {row : Option Nat} (h : Old W lb mb hb w) (g : w.grownBy w' row) (hr : ∀ k, row = some k → Ex lb mb hb k ∨ W.heap.size ≤ k) : Old W lb mb hb w' :=
  ⟨g.os.trans h.os, g.tape.trans h.tape, g.output.trans h.output, Nat.le_trans h.size g.size, fun k hk he => (g.block k (Nat.lt_of_lt_of_le hk h.size) (fun e => by
    rcases hr k e.symm with x | x
    · exact he x
    · omega)).trans (h.block k hk he)⟩
theorem Old.set (h : Old W lb mb hb w) {p : Addr} (hp : Ex lb mb hb p.block ∨ W.heap.size ≤ p.block) (u : Value) : Old W lb mb hb (w.setCell p u) :=
  ⟨h.os, h.tape, h.output, by simpa using h.size, fun k hk he => (Below.heap_setCell w p u k (fun e => by
    rcases hp with x | x
    · exact he (e ▸ x)
    · omega)).trans (h.block k hk he)⟩
theorem Old.blk (h : Old W lb mb hb w) {b : Nat} {c : Array Value} {t : TypeId} (hb' : Blk W b c t) (he : ¬ Ex lb mb hb b) : Blk w b c t := hb'.of_eq (h.block b hb'.lt he)
theorem Old.own (h : Old W lb mb hb w) {base e size n : Nat} {v : Value} {xs : List Value} (ho : W.ownsRow base e size v n xs) (he : ∀ g, v.ownBlock = some g → ¬ Ex lb mb hb g) : w.ownsRow base e size v n xs :=
  ownsRow_of ho fun g hg hl => h.block g hl (he g hg)
end
/-- The list in the making; the blocks of X are others' own. -/
structure LSt (W : World) (lb mb : Nat) (ixv : Value) (hb : Nat) (X : Nat → Prop) (n : Nat) (v : Value) (xs : List Value) (m : Value → Option Value) (U : Nat → Prop) (w : World) : Prop where
  lst : Blk w lb #[v] 40
  own : w.ownsRow 0 72 8 v n xs
  ob : ∀ g, v.ownBlock = some g → g = hb ∨ W.heap.size ≤ g
  mp : IsMapOf w mb m
  key : ∀ x u, m x = some u → ∃ b i t, x = .pointer (some ⟨b, 0, none⟩) ∧ u = .int .i64 ((i + 1 : Nat) : Int) ∧ i < n ∧ Rep W (Ex lb mb hb) b t ∧ Good t ∧ (U i ∨ RowOk W w (fun g => Wr lb mb v g ∨ X g) xs m ixv b i)
  inj : ∀ x y u, m x = some u → m y = some u → x = y
  row : ∀ i, i < n → ∃ b, m (.pointer (some ⟨b, 0, none⟩)) = some (.int .i64 ((i + 1 : Nat) : Int))
  kind : ∀ i, U i → i < n
  old : Old W lb mb hb w
  lo : lb < W.heap.size ∧ mb < W.heap.size ∧ hb < W.heap.size ∧ lb ≠ mb ∧ lb ≠ hb ∧ mb ≠ hb
  xs : ∀ g, X g → W.heap.size ≤ g ∧ g < w.heap.size ∧ v.ownBlock ≠ some g
/-- Blocks but these stay. -/
def Kept (D : Nat → Prop) (w w' : World) : Prop := w.heap.size ≤ w'.heap.size ∧ ∀ g, g < w.heap.size → ¬ D g → w'.heap[g]? = w.heap[g]?
theorem Kept.trans {D D' : Nat → Prop} {w w1 w2 : World} (h : Kept D w w1) (h' : Kept D' w1 w2) (hD : ∀ g, g < w.heap.size → D' g → D g) : Kept D w w2 :=
  ⟨Nat.le_trans h.1 h'.1, fun g hg hd => (h'.2 g (Nat.lt_of_lt_of_le hg h.1) (fun x => hd (hD g hg x))).trans (h.2 g hg hd)⟩
theorem Kept.refl (D : Nat → Prop) (w : World) : Kept D w w := ⟨Nat.le_refl _, fun _ _ _ => rfl⟩
theorem Kept.blk {D : Nat → Prop} {w w' : World} (h : Kept D w w') {b : Nat} {c : Array Value} {t : TypeId} (hb : Blk w b c t) (hd : ¬ D b) : Blk w' b c t := hb.of_eq (h.2 b hb.lt hd)
theorem Kept.own {D : Nat → Prop} {w w' : World} (h : Kept D w w') {base e size n : Nat} {v : Value} {xs : List Value} (ho : w.ownsRow base e size v n xs) (hd : ∀ g, v.ownBlock = some g → ¬ D g) : w'.ownsRow base e size v n xs :=
  ownsRow_of ho fun g hg hl => h.2 g hl (hd g hg)

/-- What a call of put leaves. -/
def PutPost (W : World) (lb mb : Nat) (ixv : Value) (hb : Nat) (X : Nat → Prop) (n : Nat) (v : Value) (xs : List Value) (m : Value → Option Value) (U : Nat → Prop) (w : World) (x : Value) (c : Nat) (e : Ending) (w' : World) : Prop :=
  ∃ i n' v' xs' m', e = .returned (.int .i64 ((i + 1 : Nat) : Int)) ∧ LSt W lb mb ixv hb X n' v' xs' m' U w' ∧ i < n' ∧ n ≤ n' ∧ n' ≤ n + c ∧ (∀ j, j < 8 * n → xs'[j]? = xs[j]?) ∧ (∀ x u, m x = some u → m' x = some u) ∧ m' x = some (.int .i64 ((i + 1 : Nat) : Int)) ∧
    Kept (Wr lb mb v) w w' ∧ ∀ g, v'.ownBlock = some g → v.ownBlock = some g ∨ w.heap.size ≤ g

section
variable {W w w' : World} {lb mb : Nat} {ixv : Value} {hb n : Nat} {X X' : Nat → Prop} {v : Value} {xs : List Value} {m : Value → Option Value} {U : Nat → Prop}
theorem LSt.not_own (st : LSt W lb mb ixv hb X n v xs m U w) {k : Nat} (hk : k < W.heap.size) (hne : k ≠ hb) : v.ownBlock ≠ some k := fun h => by
  rcases st.ob k h with x | x
  · exact hne x
  · omega
theorem LSt.move (st : LSt W lb mb ixv hb X n v xs m U w) (hk : ∀ g, g < w.heap.size → ¬ X g → w'.heap[g]? = w.heap[g]?) (hbl : Below W.heap.size w w') (hX : ∀ g, X' g → (X g ∨ w.heap.size ≤ g) ∧ g < w'.heap.size) : LSt W lb mb ixv hb X' n v xs m U w' := by
  have hlo := st.lo
  have hos := st.old.size
  have hxn : ∀ g, X g → W.heap.size ≤ g ∧ v.ownBlock ≠ some g := fun g hg => ⟨(st.xs g hg).1, (st.xs g hg).2.2⟩
  have hll := st.lst.lt
  have hml := st.mp.lt
  refine ⟨st.lst.of_eq (hk _ hll (fun h => by have := (hxn _ h).1; omega)), ownsRow_of st.own fun g hg hl => hk g hl (fun h => (hxn _ h).2 hg), st.ob, st.mp.of_eq (hk _ hml (fun h => by have := (hxn _ h).1; omega)), ?_, st.inj, st.row, st.kind, st.old.below hbl, hlo, ?_⟩
  · intro x u hx
    obtain ⟨b, i, t, h1, h2, h3, h4, h5, h6⟩ := st.key x u hx
    refine ⟨b, i, t, h1, h2, h3, h4, h5, h6.imp id fun r => r.mono (fun _ _ => rfl) (fun _ _ h => h) (fun g hg hd => hk g hg (fun h => hd (.inr h))) (fun g hg hd => hd.imp id fun h => ?_)⟩
    rcases (hX g h).1 with h | h
    · exact h
    · omega
  · intro g hg
    obtain ⟨h1, h2⟩ := hX g hg
    rcases h1 with h1 | h1
    · have := st.xs g h1
      exact ⟨this.1, h2, this.2.2⟩
    · refine ⟨Nat.le_trans hos h1, h2, fun hx => ?_⟩
      have := (st.own.lt g hx).2
      omega
/-- A block of one's own is written. -/
theorem LSt.write (st : LSt W lb mb ixv hb X n v xs m U w) {p : Addr} (hp : X p.block) (u : Value) : LSt W lb mb ixv hb X n v xs m U (w.setCell p u) :=
  st.move (fun g _ hd => Below.heap_setCell w p u g (fun x => hd (x ▸ hp))) ((Below.refl _ _).setCell (st.xs _ hp).1 u) (fun g hg => ⟨.inl hg, by simpa using (st.xs g hg).2.1⟩)
/-- New blocks. -/
theorem LSt.new (st : LSt W lb mb ixv hb X n v xs m U w) (hbl : Below w.heap.size w w') (hX : ∀ g, X' g → (X g ∨ w.heap.size ≤ g) ∧ g < w'.heap.size) : LSt W lb mb ixv hb X' n v xs m U w' :=
  st.move (fun g hg _ => hbl.block g hg) (hbl.mono st.old.size) hX

theorem exists_put (m : Value → Option Value) (x v : Value) : ∃ m' : Value → Option Value, m' x = some v ∧ ∀ y, y ≠ x → m' y = m y := by
  classical exact ⟨fun y => if y = x then some v else m y, by simp, fun y h => by simp [h]⟩

/-- A new row stands at the list's end, and its number in the map. -/
theorem LSt.enter {w0 w1 w3 : World} {b g cap : Nat} {t : Ty} {row : List Value} (st : LSt W lb mb ixv hb X n v xs m U w) (h0 : Below w.heap.size w w0) (ha : Appended w0 0 72 8 v n 1 xs row g cap w1)
    (r : Rep W (Ex lb mb hb) b t) (hg : Good t) (hn : m (.pointer (some ⟨b, 0, none⟩)) = none) (hgr : (w1.setCell ⟨lb, 0, none⟩ (.slice (some ⟨g, 0, none⟩) (n + 1) cap)).grownBy w3 (some mb))
    (hsz : w3.heap.size = (w1.setCell ⟨lb, 0, none⟩ (.slice (some ⟨g, 0, none⟩) (n + 1) cap)).heap.size)
    (hmp : ∀ m' : Value → Option Value, m' (.pointer (some ⟨b, 0, none⟩)) = some (.int .i64 ((n + 1 : Nat) : Int)) → (∀ y, y ≠ .pointer (some ⟨b, 0, none⟩) → m' y = m y) → IsMapOf w3 mb m') :
    ∃ m1, LSt W lb mb ixv hb X (n + 1) (.slice (some ⟨g, 0, none⟩) (n + 1) cap) (xs ++ row) m1 (fun i => U i ∨ i = n) w3 ∧ (∀ x u, m x = some u → m1 x = some u) ∧ m1 (.pointer (some ⟨b, 0, none⟩)) = some (.int .i64 ((n + 1 : Nat) : Int)) ∧
      Kept (Wr lb mb v) w w3 ∧ (v.ownBlock = some g ∨ w.heap.size ≤ g) := by
  obtain ⟨m1, hm1, hm2⟩ := exists_put m (.pointer (some ⟨b, 0, none⟩)) (.int .i64 ((n + 1 : Nat) : Int))
  have hsub : ∀ x u, m x = some u → m1 x = some u := fun x u h => by
    rw [hm2 x (fun e => by rw [e, hn] at h; cases h)]; exact h
  have hl := st.own.1
  have hlo := st.lo
  have hos := st.old.size
  have hs0 := h0.size
  have hs1 := ha.2.1.size
  have hll := st.lst.lt
  have hown0 : w0.ownsRow 0 72 8 v n xs := ownsRow_of st.own fun g _ hl => h0.block g hl
  have hgnew : v.ownBlock = some g ∨ w.heap.size ≤ g := ha.2.2.1.imp id fun h => by omega
  have hgb : g = hb ∨ W.heap.size ≤ g := by
    rcases hgnew with h | h
    · exact st.ob g h
    · exact .inr (by omega)
  have hglb : g ≠ lb := by rcases hgb with h | h <;> omega
  have hgmb : g ≠ mb := by rcases hgb with h | h <;> omega
  have hkept : ∀ k, k < w.heap.size → ¬ Wr lb mb v k → w3.heap[k]? = w.heap[k]? := fun k hk hd => by
    rw [hgr.block k (by simp; omega) (fun x => hd (.inr (.inl (Option.some.inj x)))), Below.heap_setCell _ _ _ _ (fun x => hd (.inl x)), ha.2.1.block k (by omega) (fun x => hd (.inr (.inr x.symm))), h0.block k hk]
  have hlst : Blk w3 lb #[.slice (some ⟨g, 0, none⟩) (n + 1) cap] 40 := by
    have h1 := ((st.lst.old h0).grown ha.2.1 (fun x => st.not_own hlo.1 hlo.2.2.2.2.1 x.symm)).set 0 (.slice (some ⟨g, 0, none⟩) (n + 1) cap)
    exact h1.grown hgr (fun x => hlo.2.2.2.1 (Option.some.inj x))
  have hown3 : w3.ownsRow 0 72 8 (.slice (some ⟨g, 0, none⟩) (n + 1) cap) (n + 1) (xs ++ row) := by
    refine ownsRow_of (ownsRow_setCell ha.1 (fun x => ?_) _) fun k hk hkl => hgr.block k hkl (fun x => ?_)
    · simp [Value.ownBlock] at x; omega
    · simp [Value.ownBlock] at hk; have := Option.some.inj x; omega
  refine ⟨m1, ⟨hlst, hown3, fun g' hg' => ?_, hmp m1 hm1 hm2, ?_, ?_, ?_, ?_, ?_, hlo, ?_⟩, hsub, hm1, ⟨by rw [hsz]; simp; omega, hkept⟩, hgnew⟩
  · have e : g = g' := by simpa [Value.ownBlock] using hg'
    exact e ▸ hgb
  · intro x u hx
    by_cases he : x = .pointer (some ⟨b, 0, none⟩)
    · subst he
      rw [hm1] at hx
      exact ⟨b, n, t, rfl, (Option.some.inj hx).symm, Nat.lt_succ_self _, r, hg, .inl (.inr rfl)⟩
    · rw [hm2 x he] at hx
      obtain ⟨b', i, t', h1, h2, h3, h4, h5, h6⟩ := st.key x u hx
      refine ⟨b', i, t', h1, h2, by omega, h4, h5, h6.imp .inl fun r => r.mono (fun j hj => List.getElem?_append_left (by omega)) hsub (fun k hk hd => hkept k hk (fun h => hd (.inl h))) (fun k hk hd => ?_)⟩
      rcases hd with (hd | hd | hd) | hd
      · exact .inl (.inl hd)
      · exact .inl (.inr (.inl hd))
      · have e : g = k := by simpa [Value.ownBlock] using hd
        rcases hgnew with h | h
        · exact .inl (.inr (.inr (by rw [h, e])))
        · omega
      · exact .inr hd
  · intro x y u hx hy
    by_cases hex : x = .pointer (some ⟨b, 0, none⟩) <;> by_cases hey : y = .pointer (some ⟨b, 0, none⟩)
    · rw [hex, hey]
    · rw [hex, hm1] at hx
      rw [hm2 y hey] at hy
      obtain ⟨_, i, _, _, h2, h3, _⟩ := st.key y u hy
      rw [← Option.some.inj hx] at h2
      simp at h2
      omega
    · rw [hey, hm1] at hy
      rw [hm2 x hex] at hx
      obtain ⟨_, i, _, _, h2, h3, _⟩ := st.key x u hx
      rw [← Option.some.inj hy] at h2
      simp at h2
      omega
    · rw [hm2 x hex] at hx
      rw [hm2 y hey] at hy
      exact st.inj x y u hx hy
  · intro i hi
    by_cases h : i < n
    · obtain ⟨b', hb'⟩ := st.row i h
      exact ⟨b', hsub _ _ hb'⟩
    · obtain rfl : i = n := by omega
      exact ⟨b, hm1⟩
  · rintro i (h | h)
    · have := st.kind i h; omega
    · omega
  · exact ((((st.old.below (h0.mono hos)).grown ha.2.1 (fun k hk => (st.ob k hk).imp (fun h => .inr (.inr h)) id)).set (.inl (.inl rfl)) _).grown hgr (fun k hk => .inl (.inr (.inl (Option.some.inj hk).symm))))
  · intro k hk
    obtain ⟨h1, h2, h5⟩ := st.xs k hk
    refine ⟨h1, by rw [hsz]; simp; omega, fun h => ?_⟩
    have e : g = k := by simpa [Value.ownBlock] using h
    rcases hgnew with h' | h'
    · exact h5 (by rw [h', e])
    · omega

def setL : List Value → Nat → List Value → List Value
  | xs, _, [] => xs
  | xs, o, v :: r => setL (xs.set o v) (o + 1) r
theorem setL_out : ∀ (vs : List Value) (xs : List Value) (o j : Nat), j < o ∨ o + vs.length ≤ j → (setL xs o vs)[j]? = xs[j]?
  | [], _, _, _, _ => rfl
  | v :: r, xs, o, j, h => by
    simp only [List.length_cons] at h
    rw [setL, setL_out r _ (o + 1) j (by omega), List.getElem?_set_ne (by omega)]
theorem setL_in : ∀ (vs : List Value) (xs : List Value) (o j : Nat), o + vs.length ≤ xs.length → j < vs.length → (setL xs o vs)[o + j]? = vs[j]?
  | [], _, _, _, _, h => by simp at h
  | v :: r, xs, o, 0, h, _ => by
    simp only [List.length_cons] at h
    rw [setL, setL_out r _ (o + 1) _ (by omega), Nat.add_zero, List.getElem?_set_self (by omega)]
    rfl
  | v :: r, xs, o, j + 1, h, hj => by
    simp only [List.length_cons] at h hj
    rw [setL, show o + (j + 1) = o + 1 + j by omega, setL_in r _ (o + 1) j (by simp; omega) (by omega)]
    simp
theorem setCells_own {base e size g cap : Nat} : ∀ (vs : List Value) (w : World) (xs : List Value) (o : Nat), w.ownsRow base e size (.slice (some ⟨g, 0, none⟩) n cap) n xs →
    (w.setCells g o vs).ownsRow base e size (.slice (some ⟨g, 0, none⟩) n cap) n (setL xs o vs) ∧ w.grownBy (w.setCells g o vs) (some g) ∧ (w.setCells g o vs).heap.size = w.heap.size
  | [], w, xs, o, h => ⟨h, ⟨rfl, rfl, rfl, Nat.le_refl _, fun _ _ _ => rfl⟩, rfl⟩
  | v :: r, w, xs, o, h => by
    obtain ⟨h1, h2⟩ := h.stored o v
    obtain ⟨h3, h4, h5⟩ := setCells_own r _ _ (o + 1) h1
    have hs : (w.setCell ⟨g, o, none⟩ v).heap.size = w.heap.size := by simp
    exact ⟨h3, ⟨h4.os.trans h2.os, h4.tape.trans h2.tape, h4.output.trans h2.output, Nat.le_trans h2.size h4.size, fun k hk hne => (h4.block k (by rw [hs]; exact hk) hne).trans (h2.block k hk hne)⟩, h5.trans hs⟩

/-- The row is written: the list is whole again. -/
theorem LSt.leave {b g cap i0 : Nat} {vs : List Value} (st : LSt W lb mb ixv hb X n (.slice (some ⟨g, 0, none⟩) n cap) xs m (fun i => U i ∨ i = i0) w) (hi : i0 < n) (hU : ¬ U i0) (hm : m (.pointer (some ⟨b, 0, none⟩)) = some (.int .i64 ((i0 + 1 : Nat) : Int))) (hvs : vs.length = 8)
    (hok : RowOk W w (fun k => Wr lb mb (.slice (some ⟨g, 0, none⟩) n cap) k ∨ X k) (setL xs (8 * i0) vs) m ixv b i0) :
    LSt W lb mb ixv hb X n (.slice (some ⟨g, 0, none⟩) n cap) (setL xs (8 * i0) vs) m U (w.setCells g (8 * i0) vs) ∧ Kept (Wr lb mb (.slice (some ⟨g, 0, none⟩) n cap)) w (w.setCells g (8 * i0) vs) := by
  obtain ⟨h1, h2, h3⟩ := setCells_own vs w xs (8 * i0) st.own
  have hlo := st.lo
  have hgb : g = hb ∨ W.heap.size ≤ g := st.ob g rfl
  have hglb : lb ≠ g := by rcases hgb with h | h <;> omega
  have hgmb : mb ≠ g := by rcases hgb with h | h <;> omega
  have hk : ∀ k, k < w.heap.size → k ≠ g → (w.setCells g (8 * i0) vs).heap[k]? = w.heap[k]? := fun k hk hne => h2.block k hk (fun x => hne (Option.some.inj x))
  refine ⟨⟨st.lst.of_eq (hk _ st.lst.lt hglb), h1, st.ob, st.mp.of_eq (hk _ st.mp.lt hgmb), ?_, st.inj, st.row, fun i hi => st.kind i (.inl hi), ?_, hlo, ?_⟩, ⟨by rw [h3]; exact Nat.le_refl _, fun k hkl hd => hk k hkl (fun x => hd (.inr (.inr (by rw [x]; rfl))))⟩⟩
  · intro x u hx
    obtain ⟨b', i, t, e1, e2, e3, e4, e5, e6⟩ := st.key x u hx
    refine ⟨b', i, t, e1, e2, e3, e4, e5, ?_⟩
    by_cases h : i = i0
    · subst h
      right
      have e := st.inj x _ u hx (by rw [e2]; exact hm)
      rw [e1] at e
      simp at e
      rw [e]
      exact hok.mono (fun _ _ => rfl) (fun _ _ h => h) (fun k hkl hd => hk k hkl (fun x => hd (.inl (.inr (.inr (by rw [x]; rfl)))))) (fun _ _ h => h)
    · rcases e6 with (h' | h') | h'
      · exact .inl h'
      · exact absurd h' h
      · exact .inr (h'.mono (fun j hj => setL_out _ _ _ _ (by omega)) (fun _ _ h => h) (fun k hkl hd => hk k hkl (fun x => hd (.inl (.inr (.inr (by rw [x]; rfl)))))) (fun _ _ h => h))
  · exact st.old.grown h2 (fun k hkk => (st.ob k hkk).imp (fun h => .inr (.inr h)) id)
  · intro k hkx
    have := st.xs k hkx
    exact ⟨this.1, by rw [h3]; exact this.2.1, this.2.2⟩
end
#print axioms LSt.enter
#print axioms LSt.leave
end Go.Proofs.YtfilbgmbmlmdbaaGreatDoor
