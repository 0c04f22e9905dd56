/- Words that the proofs of this seat share: types as trees, how they lie in memory. Nothing is claimed here. -/
import Derived.Test.YtfilbgmbmlmdbaaGreatDoorProg
import Derived.WalkKit
import Derived.WalkLawsBesides
import Derived.Handy
import Derived.Outline
import Derived.Lib.Hide
import Derived.BigQuiet
import Derived.Deep.QuietTactic
import Derived.Deep.AppendLies
import Derived.Deep.RegionWith
import Derived.Deep.RegionLaw
import Derived.Deep.RegionHeld3
import Derived.StillTailTactics
import Derived.Deep.LoopGhost
namespace Go.Proofs.YtfilbgmbmlmdbaaGreatDoor
open Go.RowKit

/-- A type of the set's own reference, as a tree. -/
inductive Ty where
  | int (sz : Nat) (sg : Bool) (nm : ByteArray)
  | ptr (t : Ty)
  | arr (n : Nat) (t : Ty)
  | named (nm : ByteArray) (t : Ty)
  | cst (t : Ty)
  | enm (nm : ByteArray) (sg : Bool) (n : Nat) (vn : Nat → ByteArray) (vv : Nat → Int)
  | comp (un : Bool) (nm : ByteArray) (sz n : Nat) (pn : Nat → ByteArray) (py : Nat → Ty) (pa pb : Nat → Nat)

/-- Row i of a list of parts: five cells. -/
def PRow (xs : List Value) (i : Nat) (nm : ByteArray) (of : Value) (a b v : Int) : Prop :=
  xs[5 * i]? = some (.string nm) ∧ xs[5 * i + 1]? = some of ∧ xs[5 * i + 2]? = some (.int .i64 a) ∧ xs[5 * i + 3]? = some (.int .i64 b) ∧ xs[5 * i + 4]? = some (.int .i64 v)

/-- The block b holds these cells, of this type, and is no string's. -/
def Blk (w : World) (b : Nat) (c : Array Value) (t : TypeId) : Prop := w.heap[b]? = some (.cells c t (0, 0))

theorem Blk.lt {w : World} {b : Nat} {c : Array Value} {t : TypeId} (h : Blk w b c t) : b < w.heap.size := (Array.getElem?_eq_some_iff.1 h).1
theorem Blk.cell {w : World} {b : Nat} {c : Array Value} {t : TypeId} (h : Blk w b c t) (i : Nat) : w.cell? ⟨b, i, none⟩ = c[i]? := by
  simp only [Blk] at h; simp [World.cell?, h]
theorem Blk.free {w : World} {b : Nat} {c : Array Value} {t : TypeId} (h : Blk w b c t) (i : Nat) : w.frozen? ⟨b, i, none⟩ = false := by
  simp only [Blk] at h; simp [World.frozen?, h]
theorem Blk.shape {w : World} {b : Nat} {c : Array Value} {t : TypeId} (h : Blk w b c t) : w.shape? b = some (t, c.size) := by
  simp only [Blk] at h; simp [World.shape?, h]
theorem Blk.of_eq {w w' : World} {b : Nat} {c : Array Value} {t : TypeId} (h : Blk w b c t) (e : w'.heap[b]? = w.heap[b]?) : Blk w' b c t := by
  unfold Blk; rw [e]; exact h
theorem Blk.below {B : Nat} {w w' : World} {b : Nat} {c : Array Value} {t : TypeId} (h : Blk w b c t) (hb : Below B w w') (hlt : b < B) : Blk w' b c t := h.of_eq (hb.block b hlt)
theorem Blk.old {w w' : World} {b : Nat} {c : Array Value} {t : TypeId} (h : Blk w b c t) (hb : Below w.heap.size w w') : Blk w' b c t := h.of_eq (hb.block b h.lt)
theorem Blk.alloc {w : World} {b : Nat} {c : Array Value} {t : TypeId} (h : Blk w b c t) (o : Obj) : Blk (w.alloc o) b c t := h.of_eq (Below.heap_alloc w o b h.lt)
theorem Blk.drew {w : World} {b : Nat} {c : Array Value} {t : TypeId} (h : Blk w b c t) : Blk w.drew b c t := h
theorem Blk.new (w : World) (c : Array Value) (t : TypeId) : Blk (w.alloc (.cells c t)) w.heap.size c t := heap_alloc_new w _
theorem Blk.other {w : World} {b : Nat} {c : Array Value} {t : TypeId} (h : Blk w b c t) {p : Addr} (hp : b ≠ p.block) (u : Value) : Blk (w.setCell p u) b c t :=
  h.of_eq (Below.heap_setCell w p u b hp)
theorem Blk.set {w : World} {b : Nat} {c : Array Value} {t : TypeId} (h : Blk w b c t) (i : Nat) (u : Value) : Blk (w.setCell ⟨b, i, none⟩ u) b (c.setIfInBounds i u) t := by
  unfold Blk at *; simp [World.setCell, Array.getElem?_modify, h]
theorem Blk.grown {w w' : World} {b : Nat} {c : Array Value} {t : TypeId} {row : Option Nat} (h : Blk w b c t) (hg : w.grownBy w' row) (hr : some b ≠ row) : Blk w' b c t :=
  h.of_eq (hg.block b h.lt hr)

/-- In the world w the type t lies at block b, and none of its blocks is of D. -/
inductive Rep (w : World) (D : Nat → Prop) : Nat → Ty → Prop
  | int {b sz : Nat} {sg : Bool} {nm : ByteArray} (h : Blk w b #[.int .i64 1, .string nm, .int .i64 sz, .bool sg, .pointer none, .slice none 0 0] 38) (hd : ¬ D b) : Rep w D b (.int sz sg nm)
  | ptr {b c : Nat} {t : Ty} (h : Blk w b #[.int .i64 2, .string ⟨#[]⟩, .int .i64 0, .bool false, .pointer (some ⟨c, 0, none⟩), .slice none 0 0] 38) (hd : ¬ D b) (r : Rep w D c t) : Rep w D b (.ptr t)
  | arr {b c n : Nat} {t : Ty} (h : Blk w b #[.int .i64 3, .string ⟨#[]⟩, .int .i64 n, .bool false, .pointer (some ⟨c, 0, none⟩), .slice none 0 0] 38) (hd : ¬ D b) (r : Rep w D c t) : Rep w D b (.arr n t)
  | named {b c : Nat} {nm : ByteArray} {t : Ty} (h : Blk w b #[.int .i64 8, .string nm, .int .i64 0, .bool false, .pointer (some ⟨c, 0, none⟩), .slice none 0 0] 38) (hd : ¬ D b) (r : Rep w D c t) : Rep w D b (.named nm t)
  | cst {b c : Nat} {t : Ty} (h : Blk w b #[.int .i64 10, .string ⟨#[]⟩, .int .i64 0, .bool false, .pointer (some ⟨c, 0, none⟩), .slice none 0 0] 38) (hd : ¬ D b) (r : Rep w D c t) : Rep w D b (.cst t)
  | enm {b n : Nat} {nm : ByteArray} {sg : Bool} {vn : Nat → ByteArray} {vv : Nat → Int} {v : Value} {xs : List Value}
      (h : Blk w b #[.int .i64 6, .string nm, .int .i64 4, .bool sg, .pointer none, v] 38) (hd : ¬ D b)
      (ho : w.ownsRow 0 56 5 v n xs) (hv : ∀ g, v.ownBlock = some g → ¬ D g) (hr : ∀ i, i < n → PRow xs i (vn i) (.pointer none) 0 0 (vv i)) : Rep w D b (.enm nm sg n vn vv)
  | comp {b sz n : Nat} {un : Bool} {nm : ByteArray} {pn : Nat → ByteArray} {py : Nat → Ty} {pa pb : Nat → Nat} {v : Value} {xs : List Value} {pc : Nat → Nat}
      (h : Blk w b #[.int .i64 (if un then 5 else 4), .string nm, .int .i64 sz, .bool false, .pointer none, v] 38) (hd : ¬ D b)
      (ho : w.ownsRow 0 56 5 v n xs) (hv : ∀ g, v.ownBlock = some g → ¬ D g)
      (hr : ∀ i, i < n → PRow xs i (pn i) (.pointer (some ⟨pc i, 0, none⟩)) (pa i) (pb i) 0) (hc : ∀ i, i < n → Rep w D (pc i) (py i)) : Rep w D b (.comp un nm sz n pn py pa pb)

theorem ownsRow_of {w w' : World} {base e size n : Nat} {v : Value} {xs : List Value} (h : w.ownsRow base e size v n xs)
    (he : ∀ g, v.ownBlock = some g → g < w.heap.size → w'.heap[g]? = w.heap[g]?) : w'.ownsRow base e size v n xs := by
  refine ⟨h.1, ?_⟩
  rcases h.2 with hn | ⟨g, cap, cur, rfl, hb, hgg, rest⟩
  · exact .inl hn
  · exact .inr ⟨g, cap, cur, rfl, hb, by rw [he g rfl (Array.getElem?_eq_some_iff.1 hgg).1]; exact hgg, rest⟩

theorem ownsRow_base {w : World} {base base' e size n : Nat} {v : Value} {xs : List Value} (h : w.ownsRow base e size v n xs) (hb : base' ≤ base) : w.ownsRow base' e size v n xs := by
  refine ⟨h.1, ?_⟩
  rcases h.2 with hn | ⟨g, cap, cur, rfl, hb', rest⟩
  · exact .inl hn
  · exact .inr ⟨g, cap, cur, rfl, Nat.le_trans hb hb', rest⟩

theorem ownsRow_fresh {w : World} {base e size n : Nat} {v : Value} {xs : List Value} (h : w.ownsRow base e size v n xs) {base' : Nat} (hb : ∀ g, v.ownBlock = some g → base' ≤ g) : w.ownsRow base' e size v n xs := by
  refine ⟨h.1, ?_⟩
  rcases h.2 with hn | ⟨g, cap, cur, rfl, hb', rest⟩
  · exact .inl hn
  · exact .inr ⟨g, cap, cur, rfl, hb g rfl, rest⟩

theorem Rep.keep {w w' : World} {D D' : Nat → Prop} (hS : ∀ b, b < w.heap.size → ¬ D b → w'.heap[b]? = w.heap[b]?) (hD : ∀ b, b < w.heap.size → D' b → D b)
    {b : Nat} {t : Ty} (r : Rep w D b t) : Rep w' D' b t := by
  induction r with
  | int h hd => exact .int (h.of_eq (hS _ h.lt hd)) (fun x => hd (hD _ h.lt x))
  | ptr h hd _ ih => exact .ptr (h.of_eq (hS _ h.lt hd)) (fun x => hd (hD _ h.lt x)) ih
  | arr h hd _ ih => exact .arr (h.of_eq (hS _ h.lt hd)) (fun x => hd (hD _ h.lt x)) ih
  | named h hd _ ih => exact .named (h.of_eq (hS _ h.lt hd)) (fun x => hd (hD _ h.lt x)) ih
  | cst h hd _ ih => exact .cst (h.of_eq (hS _ h.lt hd)) (fun x => hd (hD _ h.lt x)) ih
  | enm h hd ho hv hr => exact .enm (h.of_eq (hS _ h.lt hd)) (fun x => hd (hD _ h.lt x)) (ownsRow_of ho fun g hg hl => hS g hl (hv g hg)) (fun g hg x => hv g hg (hD g (ho.lt g hg).2 x)) hr
  | comp h hd ho hv hr _ ih => exact .comp (h.of_eq (hS _ h.lt hd)) (fun x => hd (hD _ h.lt x)) (ownsRow_of ho fun g hg hl => hS g hl (hv g hg)) (fun g hg x => hv g hg (hD g (ho.lt g hg).2 x)) hr ih

theorem Rep.old {w w' : World} {D : Nat → Prop} {b : Nat} {t : Ty} (r : Rep w D b t) (hb : Below w.heap.size w w') : Rep w' D b t := r.keep (fun k hk _ => hb.block k hk) (fun _ _ h => h)
theorem Rep.weaken {w : World} {D D' : Nat → Prop} {b : Nat} {t : Ty} (r : Rep w D b t) (hD : ∀ b, b < w.heap.size → D' b → D b) : Rep w D' b t := r.keep (fun _ _ _ => rfl) hD

/-- Which of the tree's blocks the type itself is: six cells. -/
theorem Rep.head {w : World} {D : Nat → Prop} {b : Nat} {t : Ty} (r : Rep w D b t) : ∃ k nm s g o v, Blk w b #[.int .i64 k, .string nm, .int .i64 s, .bool g, .pointer o, v] 38 ∧ ¬ D b := by
  cases r with
  | int h hd => exact ⟨_, _, _, _, _, _, h, hd⟩
  | ptr h hd _ => exact ⟨_, _, _, _, _, _, h, hd⟩
  | arr h hd _ => exact ⟨_, _, _, _, _, _, h, hd⟩
  | named h hd _ => exact ⟨_, _, _, _, _, _, h, hd⟩
  | cst h hd _ => exact ⟨_, _, _, _, _, _, h, hd⟩
  | enm h hd _ _ _ => exact ⟨_, _, _, _, _, _, h, hd⟩
  | comp h hd _ _ _ _ => exact ⟨_, _, _, _, _, _, h, hd⟩
theorem Rep.lt {w : World} {D : Nat → Prop} {b : Nat} {t : Ty} (r : Rep w D b t) : b < w.heap.size := by
  obtain ⟨_, _, _, _, _, _, h, _⟩ := r.head; exact h.lt
theorem Rep.not {w : World} {D : Nat → Prop} {b : Nat} {t : Ty} (r : Rep w D b t) : ¬ D b := by
  obtain ⟨_, _, _, _, _, _, _, h⟩ := r.head; exact h

/-- A type's size in bytes. -/
def Ty.bytes : Ty → Nat
  | .int sz _ _ => sz
  | .ptr _ => 8
  | .arr n t => n * t.bytes
  | .named _ t => t.bytes
  | .cst t => t.bytes
  | .enm .. => 4
  | .comp _ _ sz .. => sz
/-- What stands behind names and what qualifies. -/
def Ty.behind : Ty → Ty
  | .named _ t => t.behind
  | .cst t => t.behind
  | t => t
def Ty.kind : Ty → Nat
  | .int .. => 1
  | .ptr _ => 2
  | .arr .. => 3
  | .named .. => 8
  | .cst _ => 10
  | .enm .. => 6
  | .comp un .. => if un then 5 else 4

/-- Ints of the set. -/
def IntT (t : Ty) : Prop := ∃ sz sg nm, t = .int sz sg nm ∧ (sz = 1 ∨ sz = 2 ∨ sz = 4 ∨ sz = 8) ∧ nm.size ≤ 2
/-- Enumerations of the set. -/
def EnmT (t : Ty) : Prop := ∃ nm sg n vn vv, t = .enm nm sg n vn vv ∧ 1 ≤ n ∧ n ≤ 4 ∧ nm.size ≤ 2 ∧ ∀ i, i < n → (vn i).size = 2 ∧ 0 ≤ vv i ∧ vv i < 256
/-- Fields' types that are no structs. -/
inductive Leaf : Ty → Prop
  | int {t : Ty} (h : IntT t) : Leaf t
  | ptr {t : Ty} (h : IntT t) : Leaf (.ptr t)
  | enm {t : Ty} (h : EnmT t) : Leaf t
  | arr {n : Nat} {t : Ty} (h : IntT t) (h1 : 1 ≤ n) (h6 : n ≤ 6) : Leaf (.arr n t)
  | named {nm : ByteArray} {t : Ty} (h : IntT t) (hn : nm.size ≤ 8) : Leaf (.named nm t)
  | cst {t : Ty} (h : IntT t) : Leaf (.cst t)

/-- The rule of a field of bits: it lies within a load of its size. -/
def BitsOk (y : Ty) (a b : Nat) : Prop := b = 0 ∨ ∃ sz sg nm, y = .int sz sg nm ∧ b ≤ 8 * sz ∧ a % (8 * sz) + b ≤ 8 * sz
/-- A struct or a union of such parts. -/
def CompT (un : Bool) (nm : ByteArray) (szm nmx : Nat) (Fld : ByteArray → Ty → Nat → Nat → Prop) (t : Ty) : Prop :=
  ∃ sz n pn py pa pb, t = .comp un nm sz n pn py pa pb ∧ sz ≤ szm ∧ n ≤ nmx ∧ ∀ i, i < n → Fld (pn i) (py i) (pa i) (pb i)

/-- What an append asks of a slice's type. -/
def ElemOk (P : Program) (t e size bytes : Nat) : Prop :=
  ∃ i z, P.underlying t = some (.slice e) ∧ P.info? e = some i ∧ i.zero = some z ∧ i.size = size ∧ i.bytes = bytes ∧ z.cells.size = size ∧ 0 < size
theorem ElemOk.of {P : Program} {t e size bytes : Nat} {z : Value} (ht : P.underlying t = some (.slice e)) (h : (P.info? e).map (fun i => (i.zero, i.size, i.bytes)) = some (some z, size, bytes)) (hz : z.cells.size = size) (hs : 0 < size) : ElemOk P t e size bytes := by
  obtain ⟨i, hi, h1, h2, h3⟩ := info_parts h
  exact ⟨i, z, ht, hi, h1, h2, h3, hz, hs⟩
theorem elemParts : ElemOk Tryz.prog 36 56 5 48 := .of (z := .agg #[.string ⟨#[]⟩, .pointer none, .int .i64 0, .int .i64 0, .int .i64 0]) Tryz.underlying36 (by kernel_rfl) (by rfl) (by decide)

section
variable {P : Program} {ops : Array Oper} {rest : List Oper} {o : Oper} {a : Act} {w : World} {K : Act → World → Prop} {Q : Exit → Act → World → Prop} {E : Prop} {t e size bytes : Nat}
/-- What is known behind an append to a slice that the call owns. -/
def Appended (w : World) (base e size : Nat) (v : Value) (n m : Nat) (xs news : List Value) (g cap : Nat) (w' : World) : Prop :=
  w'.ownsRow base e size (.slice (some ⟨g, 0, none⟩) (n + m) cap) (n + m) (xs ++ news) ∧ w.grownBy w' v.ownBlock ∧ (v.ownBlock = some g ∨ g = w.heap.size) ∧ g < w'.heap.size
theorem wpList_app (H : ElemOk P t e size bytes) (s x : Operand) (hgd : o.guard = none) (ho : o.op = .call { callee := .builtin .append, args := #[s, x], argTypes := #[t, t] })
    (base : Nat) (v : Value) (n : Nat) (xs : List Value) (hs : a.eval s = v) (hown : w.ownsRow base e size v n xs)
    (B : Nat) (m c : Nat) (news : Array Value) (hx : a.eval x = .slice (some ⟨B, 0, none⟩) m c) (hB : Blk w B news e) (hl : news.size = m * size) (h1 : news.toList.all Value.oneCell' = true)
    (hm : 0 < m) (h : ∀ g cap w', Appended w base e size v n m xs news.toList g cap w' → wpList P ops Q rest (a.put o.dst (.slice (some ⟨g, 0, none⟩) (n + m) cap)) w')
    (hbytes : (n + m) * bytes ≤ 140737488355328) (h63 : n + m ≤ maxLen) (hbase : base ≤ w.heap.size) : wpList P ops Q (o :: rest) a w := by
  obtain ⟨i, z, ht, hi, hz, hsz, hby, hzs, h0⟩ := H
  exact wpList_append_lies w hgd s x t ho base e i z size bytes ht hi hz hsz hby hzs h0 v n xs hs hown ⟨B, 0, none⟩ m c news.toList hx (by simpa using hl) (World.news_of_block hB) (fun u hu => List.all_eq_true.1 h1 u hu) hm h63 hbytes hbase _ rfl
    (fun g cap w' a1 a2 a3 a4 => h g cap w' ⟨a1, a2, a3, a4⟩)
theorem step_app (H : ElemOk P t e size bytes) (s x : Operand) (hgd : o.guard = none) (ho : o.op = .call { callee := .builtin .append, args := #[s, x], argTypes := #[t, t] })
    (base : Nat) (v : Value) (n : Nat) (xs : List Value) (hs : a.eval s = v) (hown : w.ownsRow base e size v n xs)
    (B : Nat) (m c : Nat) (news : Array Value) (hx : a.eval x = .slice (some ⟨B, 0, none⟩) m c) (hB : Blk w B news e) (hl : news.size = m * size) (h1 : news.toList.all Value.oneCell' = true)
    (hm : 0 < m) (h : ∀ g cap w', Appended w base e size v n m xs news.toList g cap w' → K (a.put o.dst (.slice (some ⟨g, 0, none⟩) (n + m) cap)) w')
    (hbytes : (n + m) * bytes ≤ 140737488355328) (h63 : n + m ≤ maxLen) (hbase : base ≤ w.heap.size) :
    if Region.wanted o (yielded ops a.tmps) = true then Oper.wp P o a w K Q else E := by
  obtain ⟨i, z, ht, hi, hz, hsz, hby, hzs, h0⟩ := H
  exact step_append_lies w hgd s x t ho base e i z size bytes ht hi hz hsz hby hzs h0 v n xs hs hown ⟨B, 0, none⟩ m c news.toList hx (by simpa using hl) (World.news_of_block hB) (fun u hu => List.all_eq_true.1 h1 u hu) hm h63 hbytes hbase _ rfl
    (fun g cap w' a1 a2 a3 a4 => h g cap w' ⟨a1, a2, a3, a4⟩)
end

theorem own_ne {w : World} {base e size n : Nat} {v : Value} {xs : List Value} (h : w.ownsRow base e size v n xs) {b : Nat} (hb : b < base) : some b ≠ v.ownBlock := fun x => by
  have := (h.lt b x.symm).1; omega
theorem Blk.app {w w' : World} {base e size n m g cap : Nat} {v : Value} {xs news : List Value} {b : Nat} {c : Array Value} {t : TypeId} (h : Blk w b c t) (ha : Appended w base e size v n m xs news g cap w')
    (hown : w.ownsRow base e size v n xs) (hb : b < base) : Blk w' b c t := h.grown ha.2.1 (own_ne hown hb)
theorem Appended.below {W w w' : World} {base e size n m g cap : Nat} {v : Value} {xs news : List Value} (ha : Appended w base e size v n m xs news g cap w') (hown : w.ownsRow base e size v n xs)
    {B : Nat} (hW : Below B W w) (hB : B ≤ w.heap.size) (hb : B ≤ base) : Below B W w' :=
  hW.grown ha.2.1 hB (fun k hk => by have := (hown.lt k hk).1; omega)
theorem PRow.left {xs ys : List Value} {i n : Nat} {nm : ByteArray} {of : Value} {a b v : Int} (h : PRow xs i nm of a b v) (hx : xs.length = n * 5) (hi : i < n) : PRow (xs ++ ys) i nm of a b v := by
  obtain ⟨h1, h2, h3, h4, h5⟩ := h
  refine ⟨?_, ?_, ?_, ?_, ?_⟩ <;> (rw [List.getElem?_append_left (by omega)]; assumption)
theorem PRow.last {xs : List Value} {n : Nat} (nm : ByteArray) (of : Value) (a b v : Int) (hx : xs.length = n * 5) : PRow (xs ++ [.string nm, of, .int .i64 a, .int .i64 b, .int .i64 v]) n nm of a b v := by
  refine ⟨?_, ?_, ?_, ?_, ?_⟩
  · rw [List.getElem?_append_right (by omega), show 5 * n - xs.length = 0 by omega]; rfl
  · rw [List.getElem?_append_right (by omega), show 5 * n + 1 - xs.length = 1 by omega]; rfl
  · rw [List.getElem?_append_right (by omega), show 5 * n + 2 - xs.length = 2 by omega]; rfl
  · rw [List.getElem?_append_right (by omega), show 5 * n + 3 - xs.length = 3 by omega]; rfl
  · rw [List.getElem?_append_right (by omega), show 5 * n + 4 - xs.length = 4 by omega]; rfl
theorem ownsRow_setCell {w : World} {base e size n : Nat} {v : Value} {xs : List Value} (h : w.ownsRow base e size v n xs) {p : Addr} (hp : some p.block ≠ v.ownBlock) (u : Value) : (w.setCell p u).ownsRow base e size v n xs :=
  ownsRow_of h fun g hg _ => Below.heap_setCell w p u g (fun x => hp (by rw [hg, x]))
/-- A function with one more value. -/
def upd {α : Type} (f : Nat → α) (k : Nat) (x : α) : Nat → α := fun i => if i = k then x else f i
theorem upd_same {α : Type} (f : Nat → α) (k : Nat) (x : α) : upd f k x k = x := by simp [upd]
theorem upd_other {α : Type} (f : Nat → α) {k i : Nat} (x : α) (h : i < k) : upd f k x i = f i := by
  unfold upd; rw [if_neg (by omega)]

theorem Blk.six {w : World} {b : Nat} {a0 a1 a2 a3 a4 a5 : Value} {t : TypeId} (h : Blk w b #[a0, a1, a2, a3, a4, a5] t) :
    w.cell? ⟨b, 0, none⟩ = some a0 ∧ w.cell? ⟨b, 1, none⟩ = some a1 ∧ w.cell? ⟨b, 2, none⟩ = some a2 ∧ w.cell? ⟨b, 3, none⟩ = some a3 ∧ w.cell? ⟨b, 4, none⟩ = some a4 ∧ w.cell? ⟨b, 5, none⟩ = some a5 :=
  ⟨h.cell 0, h.cell 1, h.cell 2, h.cell 3, h.cell 4, h.cell 5⟩
theorem Blk.five {w : World} {b : Nat} {a0 a1 a2 a3 a4 : Value} {t : TypeId} (h : Blk w b #[a0, a1, a2, a3, a4] t) :
    w.cell? ⟨b, 0, none⟩ = some a0 ∧ w.cell? ⟨b, 1, none⟩ = some a1 ∧ w.cell? ⟨b, 2, none⟩ = some a2 ∧ w.cell? ⟨b, 3, none⟩ = some a3 ∧ w.cell? ⟨b, 4, none⟩ = some a4 :=
  ⟨h.cell 0, h.cell 1, h.cell 2, h.cell 3, h.cell 4⟩
def Ty.layers : Ty → Nat
  | .named _ t => t.layers + 1
  | .cst t => t.layers + 1
  | _ => 0
/-- A type is a name or a qualifier of another one, or is what stands behind itself. -/
theorem Rep.peel {w : World} {D : Nat → Prop} {b : Nat} {t : Ty} (r : Rep w D b t) :
    (∃ k : Int, w.cell? ⟨b, 0, none⟩ = some (.int .i64 k) ∧ k = t.kind ∧ (k == 8) = false ∧ (k == 10) = false ∧ t.behind = t) ∨
    (∃ c u, w.cell? ⟨b, 0, none⟩ = some (.int .i64 8) ∧ w.cell? ⟨b, 4, none⟩ = some (.pointer (some ⟨c, 0, none⟩)) ∧ Rep w D c u ∧ t.behind = u.behind ∧ t.layers = u.layers + 1) ∨
    (∃ c u, w.cell? ⟨b, 0, none⟩ = some (.int .i64 10) ∧ w.cell? ⟨b, 4, none⟩ = some (.pointer (some ⟨c, 0, none⟩)) ∧ Rep w D c u ∧ t.behind = u.behind ∧ t.layers = u.layers + 1) := by
  cases r with
  | int h hd => exact .inl ⟨1, h.cell 0, rfl, rfl, rfl, rfl⟩
  | ptr h hd _ => exact .inl ⟨2, h.cell 0, rfl, rfl, rfl, rfl⟩
  | arr h hd _ => exact .inl ⟨3, h.cell 0, rfl, rfl, rfl, rfl⟩
  | named h hd r => exact .inr (.inl ⟨_, _, h.cell 0, h.cell 4, r, rfl, rfl⟩)
  | cst h hd r => exact .inr (.inr ⟨_, _, h.cell 0, h.cell 4, r, rfl, rfl⟩)
  | enm h hd _ _ _ => exact .inl ⟨6, h.cell 0, rfl, rfl, rfl, rfl⟩
  | @comp b sz n un nm pn py pa pb v xs pc h hd _ _ _ _ => cases un <;> exact .inl ⟨_, h.cell 0, rfl, rfl, rfl, rfl⟩

/-- A post that speaks of the normal end alone. -/
def AtEnd (R : Act → World → Prop) : Exit → Act → World → Prop
  | .normal, a, w => R a w
  | _, _, _ => False
/-- A piece of code whose ways meet again in one frame: what follows is walked once. -/
theorem wp_meet {P : Program} {c : Code} {Q : Exit → Act → World → Prop} {a : Act} {w : World} (Φ : Nat → Nat → World → World → Prop) (A : Nat → Nat → Act)
    (h1 : c.wp P (AtEnd fun a' w' => ∃ x y w1, Φ x y w1 w' ∧ a' = A x y) a w) (h2 : ∀ x y w1 w', Φ x y w1 w' → Q .normal (A x y) w') : c.wp P Q a w :=
  wp_mono h1 fun e a' w' h => by
    cases e with
    | normal => obtain ⟨x, y, w1, hx, rfl⟩ := h; exact h2 x y w1 w' hx
    | _ => exact h.elim

#print axioms Rep.keep
end Go.Proofs.YtfilbgmbmlmdbaaGreatDoor
