/- Maps whose keys lead to memory (pointers, interfaces that hold pointers): laws of the look-up and of the store at a new key. Nothing is claimed here. -/
import Derived.WalkKit
import Derived.Handy
import Derived.OwnWalk
import Derived.LaidEqlPtr
import Derived.Maps.OwnSet
import Derived.Test.YtfilbgmbmlmdbaaGreatDoorProg
import Derived.WalkLawsBesides
import Derived.Outline
import Derived.Lib.Hide
import Derived.BigQuiet
import Derived.Deep.QuietTactic
import Derived.Deep.AppendLies
import Derived.Deep.RegionWith
import Derived.Deep.RegionLaw
import Derived.Deep.RegionHeld3
import Derived.StillTailTactics
import Derived.Deep.LoopGhost
set_option linter.unusedSimpArgs false
set_option linter.unusedVariables false
set_option maxRecDepth 1000000
set_option maxHeartbeats 16000000
namespace Go.Proofs.YtfilbgmbmlmdbaaGreatDoor
open Go.RowKit Go.MapKept
structure KeyIn (P : Program) (k : TypeId) (w : World) (G : Value → Prop) : Prop where
 check : ∀ em v, G v → (Instr.checkKey em 10000 k v).run P w = .ok () w
 late : ∃ d, P.underlying k = some d ∧ ∀ x e es, G x → Instr.findNow d x (e :: es) 0 = none
 same : ∀ x y, G x → G y → ∃ r, (Op.equal k x y).run P w = .ok r w ∧ (r = true ↔ y = x)
 stays : ∀ x, G x → Instr.sameBits 10000 x x = true
def IsMapOf (w : World) (b : Nat) (m : Value → Option Value) : Prop :=
 ∃ es clock, w.heap[b]? = some (.map es clock) ∧ (∀ e ∈ es.toList, m e.key = some e.val) ∧ ∀ x v, m x = some v → ∃ e ∈ es.toList, e.key = x
theorem IsMapOf.lt {w : World} {b : Nat} {m : Value → Option Value} (h : IsMapOf w b m) : b < w.heap.size := by
 obtain ⟨es, clock, hb, _⟩ := h; exact (Array.getElem?_eq_some_iff.1 hb).1
theorem IsMapOf.of_eq {w w' : World} {b : Nat} {m : Value → Option Value} (h : IsMapOf w b m) (e : w'.heap[b]? = w.heap[b]?) : IsMapOf w' b m := by
 obtain ⟨es, clock, hb, r⟩ := h; exact ⟨es, clock, e.trans hb, r⟩
theorem IsMapOf.made (w : World) : IsMapOf (w.alloc (.map #[] 0)) w.heap.size (fun _ => none) :=
 ⟨#[], 0, (MapKept.heap_alloc w _).1, by simp, by simp⟩
theorem IsMapOf.alloc {w : World} {b : Nat} {m : Value → Option Value} (h : IsMapOf w b m) (o : Obj) : IsMapOf (w.alloc o) b m := h.of_eq ((MapKept.heap_alloc w o).2 b h.lt)
theorem IsMapOf.grown {w w' : World} {b : Nat} {m : Value → Option Value} {row : Option Nat} (h : IsMapOf w b m) (hg : w.grownBy w' row) (hr : some b ≠ row) : IsMapOf w' b m := h.of_eq (hg.block b h.lt hr)
theorem IsMapOf.set {w : World} {b : Nat} {m : Value → Option Value} (h : IsMapOf w b m) {p : Addr} (hp : b ≠ p.block) (u : Value) : IsMapOf (w.setCell p u) b m := h.of_eq (Below.heap_setCell w p u b hp)
section
variable {P : Program} {k e t : TypeId} {w : World} {G : Value → Prop} {b : Nat} {m : Value → Option Value}
theorem findAsking_keys (K : KeyIn P k w G) {x : Value} (hx : G x) : ∀ (l : List MapEntry) (i : Nat), (∀ y ∈ l, G y.key) →
  ((Instr.findAsking k x l i).run P w = .ok none w ∧ ∀ y ∈ l, y.key ≠ x) ∨ ∃ j y, (Instr.findAsking k x l i).run P w = .ok (some (i + j, y.val)) w ∧ l[j]? = some y ∧ y.key = x
 | [], _, _ => .inl ⟨rfl, by simp⟩
 | y :: es, i, h => by
  obtain ⟨r, hr, hiff⟩ := K.same x y.key hx (h y (.head _))
  cases r with
  | true => exact .inr ⟨0, y, by simp [Instr.findAsking, hr, Result.andThen], rfl, hiff.1 rfl⟩
  | false =>
   have hne : y.key ≠ x := fun q => by have := hiff.2 q; cases this
   rcases findAsking_keys K hx es (i + 1) (fun z hz => h z (.tail _ hz)) with ⟨h1, h2⟩ | ⟨j, z, h1, h2, h3⟩
   ·exact .inl ⟨by simp [Instr.findAsking, hr, Result.andThen, h1], fun z hz => by
     cases hz with
     | head => exact hne
     | tail _ hz => exact h2 z hz⟩
   ·exact .inr ⟨j + 1, z, by simp [Instr.findAsking, hr, Result.andThen, h1]; omega, by simpa using h2, h3⟩
theorem findKey_keys (K : KeyIn P k w G) {x : Value} (hx : G x) (l : List MapEntry) (h : ∀ y ∈ l, G y.key) :
  ((Instr.findKey k x l).run P w = .ok none w ∧ ∀ y ∈ l, y.key ≠ x) ∨ ∃ j y, (Instr.findKey k x l).run P w = .ok (some (j, y.val)) w ∧ l[j]? = some y ∧ y.key = x := by
 obtain ⟨d, hd, hl⟩ := K.late
 cases l with
 | nil => exact .inl ⟨by simp [Instr.findKey, run_underlying hd, Instr.findNow, Result.andThen], by simp⟩
 | cons y es =>
  have e0 : (Instr.findKey k x (y :: es)).run P w = (Instr.findAsking k x (y :: es) 0).run P w := by
   simp [Instr.findKey, run_underlying hd, hl x y es hx, Result.andThen]
  rw [e0]
  rcases findAsking_keys K hx (y :: es) 0 h with h1 | ⟨j, z, h1, h2⟩
  ·exact .inl h1
  ·exact .inr ⟨j, z, by simpa using h1, h2⟩
theorem IsMapOf.look (h : IsMapOf w b m) (K : KeyIn P k w G) (hG : ∀ x v, m x = some v → G x) (ht : P.underlying t = some (.map k e)) {z : Value} (hz : (zeroValue e).run P w = .ok z w) {x : Value} (hx : G x) :
  (Instr.lookup t (.map (some b)) x true).run P w = .ok (.tuple #[(m x).getD z, .bool (m x).isSome]) w := by
 obtain ⟨es, clock, hb, h1, h2⟩ := h
 have hk : ∀ y ∈ es.toList, G y.key := fun y hy => hG _ _ (h1 y hy)
 rcases findKey_keys K hx es.toList hk with ⟨hf, hn⟩ | ⟨j, y, hf, hj, hy⟩
 ·have hm : m x = none := by
   cases hm : m x with
   | none => rfl
   | some v => obtain ⟨y, hy, hyx⟩ := h2 x v hm; exact absurd hyx (hn y hy)
  simp [Instr.lookup, run_underlying ht, MapKept.run_getObj_map hb, K.check _ _ hx, hf, hz, hm, Result.andThen]
 ·have hmem : y ∈ es.toList := List.mem_of_getElem? hj
  have hm : m x = some y.val := by rw [← hy]; exact h1 y hmem
  simp [Instr.lookup, run_underlying ht, MapKept.run_getObj_map hb, K.check _ _ hx, hf, hm, Result.andThen]
theorem IsMapOf.store (h : IsMapOf w b m) (K : KeyIn P k w G) (hG : ∀ x v, m x = some v → G x) (ht : P.underlying t = some (.map k e)) {x v : Value} (hx : G x) (hn : m x = none) :
  ∃ w', (Instr.mapUpdate t (.map (some b)) x v).run P w = .ok () w' ∧ w.grownBy w' (some b) ∧ w'.heap.size = w.heap.size ∧ ∀ m' : Value → Option Value, m' x = some v → (∀ y, y ≠ x → m' y = m y) → IsMapOf w' b m' := by
 obtain ⟨es, clock, hb, h1, h2⟩ := h
 have hk : ∀ y ∈ es.toList, G y.key := fun y hy => hG _ _ (h1 y hy)
 rcases findKey_keys K hx es.toList hk with ⟨hf, hne⟩ | ⟨j, y, hf, hj, hy⟩
 ·refine ⟨ChangeMaps.setBlock w b (.map (es.push { key := x, val := v, born := clock }) (clock + 1)), ?_, ?_, ?_, fun m' hm1 hm2 => ⟨_, _, ChangeMaps.heap_setBlock_same hb _, ?_, ?_⟩⟩
  ·simp [Instr.mapUpdate, run_underlying ht, MapKept.run_getObj_map hb, K.check _ _ hx, hf, MapKept.run_setObj_map _ hb, Result.andThen, ChangeMaps.setBlock]
  ·exact ⟨rfl, rfl, rfl, by simp [ChangeMaps.setBlock], fun i _ hi => ChangeMaps.heap_setBlock_other hb _ (fun e => hi (by rw [e]))⟩
  ·simp [ChangeMaps.setBlock]
  ·intro y hy
   simp only [Array.toList_push, List.mem_append, List.mem_singleton] at hy
   rcases hy with hy | rfl
   ·rw [hm2 _ (hne y hy)]; exact h1 y hy
   ·exact hm1
  ·intro y u hu
   by_cases hyx : y = x
   ·exact ⟨{ key := x, val := v, born := clock }, by simp, hyx.symm⟩
   ·rw [hm2 y hyx] at hu
    obtain ⟨y', hy', he⟩ := h2 y u hu
    exact ⟨y', by simp only [Array.toList_push, List.mem_append]; exact .inl hy', he⟩
 ·have hmem : y ∈ es.toList := List.mem_of_getElem? hj
  have hm : m x = some y.val := by rw [← hy]; exact h1 y hmem
  rw [hn] at hm; cases hm
theorem wpList_look {ops : Array Oper} {rest : List Oper} {o : Oper} {a : Act} {Q : Exit → Act → World → Prop} (hg : o.guard = none) (mo xo : Operand) (hop : o.op = Op.lookup t mo xo true)
  (ht : P.underlying t = some (.map k e)) {z : Value} (hz : (zeroValue e).run P w = .ok z w) (K : KeyIn P k w G) (hm : a.eval mo = .map (some b)) (h : IsMapOf w b m) (hG : ∀ x v, m x = some v → G x)
  (x : Value) (hx : a.eval xo = x) (hgx : G x) (r : Option Value) (hr : m x = r) (hK : wpList P ops Q rest (a.put o.dst (.tuple #[r.getD z, .bool r.isSome])) w) : wpList P ops Q (o :: rest) a w := by
 subst hr
 refine wpList_plain hg fun K' hK' => ?_
 have hrun := h.look K hG ht hz hgx
 unfold Oper.wp
 simp [execOp, hop, hm, hx, hrun, Result.andThen]
 exact hK' _ _ hK
theorem wpList_store {ops : Array Oper} {rest : List Oper} {o : Oper} {a : Act} {Q : Exit → Act → World → Prop} (hg : o.guard = none) (mo xo vo : Operand) (hop : o.op = Op.mapUpdate t mo xo vo)
  (ht : P.underlying t = some (.map k e)) (K : KeyIn P k w G) (hm : a.eval mo = .map (some b)) (h : IsMapOf w b m) (hG : ∀ x v, m x = some v → G x)
  (x v : Value) (hx : a.eval xo = x) (hv : a.eval vo = v) (hgx : G x) (hn : m x = none)
  (hK : ∀ w', w.grownBy w' (some b) → w'.heap.size = w.heap.size → (∀ m' : Value → Option Value, m' x = some v → (∀ y, y ≠ x → m' y = m y) → IsMapOf w' b m') → wpList P ops Q rest (a.put o.dst undef) w') : wpList P ops Q (o :: rest) a w := by
 refine wpList_plain hg fun K' hK' => ?_
 obtain ⟨w', hrun, r1, r2, r3⟩ := h.store (v := v) K hG ht hgx hn
 unfold Oper.wp
 simp [execOp, hop, hm, hx, hv, hrun, Result.andThen]
 exact hK' _ _ (hK w' r1 r2 r3)
def PtrKey (w : World) (x : Value) : Prop := ∃ c cs ty, x = .pointer (some ⟨c, 0, none⟩) ∧ w.heap[c]? = some (.cells cs ty (0, 0))
theorem ptr_keys {te : TypeId} {j : TypeInfo} (w : World) (hp : P.underlying k = some (.pointer te)) (hte : P.info? te = some j) (hsz : j.size ≠ 0) : KeyIn P k w (PtrKey w) where
 check em v := by
  rintro ⟨c, cs, ty, rfl, _⟩
  have h : ∀ n : Nat, (Instr.checkKey em (n + 1) k (.pointer (some ⟨c, 0, none⟩))).run P w = .ok () w := fun n => by
   simp [Instr.checkKey, run_underlying hp, Result.andThen]
  exact h 9999
 late := ⟨_, hp, by rintro x y es ⟨c, cs, ty, rfl, _⟩; simp [Instr.findNow, Instr.sameNow]⟩
 same := by
  rintro x y ⟨c, cs, ty, rfl, h1⟩ ⟨c', cs', ty', rfl, h2⟩
  by_cases hc : c = c'
  ·subst hc
   have h : ∀ d : Nat, (Op.equalIn (d + 1) k (.pointer (some ⟨c, 0, none⟩)) (.pointer (some ⟨c, 0, none⟩))).run P w = .ok true w := fun d => by
    simp [Op.equalIn, run_underlying hp, sizeOf, typeInfo, hte, run_sameAddr_same]
   exact ⟨true, h 9999, by simp⟩
  ·have h : ∀ d : Nat, (Op.equalIn (d + 1) k (.pointer (some ⟨c, 0, none⟩)) (.pointer (some ⟨c', 0, none⟩))).run P w = .ok false w := fun d => by
    simp [Op.equalIn, run_underlying hp, sizeOf, typeInfo, hte, hsz, run_sameAddr_other w (a := ⟨c, 0, none⟩) (b := ⟨c', 0, none⟩) (by simp) h1 h2]
   exact ⟨false, h 9999, by simp⟩
 stays := by
  rintro x ⟨c, cs, ty, rfl, _⟩
  have h : ∀ n : Nat, Instr.sameBits n (.pointer (some ⟨c, 0, none⟩)) (.pointer (some ⟨c, 0, none⟩)) = true := fun n => by simp [Instr.sameBits]
  exact h 10000
def IfaceKey (P : Program) (w : World) (x : Value) : Prop := ∃ tp te i j c cs ty, x = .iface tp (.pointer (some ⟨c, 0, none⟩)) ∧ w.heap[c]? = some (.cells cs ty (0, 0)) ∧
 P.underlying tp = some (.pointer te) ∧ P.info? tp = some i ∧ i.comparable = true ∧ P.info? te = some j ∧ j.size ≠ 0
end
end Go.Proofs.YtfilbgmbmlmdbaaGreatDoor
namespace Go.Proofs.YtfilbgmbmlmdbaaGreatDoor
open Go.RowKit
abbrev zl1 := @List.getElem_toArray
abbrev zl2 := @List.getElem_cons_succ
abbrev zl3 := @List.getElem_cons_zero
abbrev zl4 := @List.setIfInBounds_toArray
abbrev zl5 := @List.set_cons_zero
abbrev zl6 := @List.set_cons_succ
inductive Ty where
 | int (sz : Nat) (sg : Bool) (nm : ByteArray)
 | ptr (t : Ty)
 | arr (n : Nat) (t : Ty)
 | named (nm : ByteArray) (t : Ty)
 | cst (t : Ty)
 | enm (nm : ByteArray) (sg : Bool) (n : Nat) (vn : Nat → ByteArray) (vv : Nat → Int)
 | comp (un : Bool) (nm : ByteArray) (sz n : Nat) (pn : Nat → ByteArray) (py : Nat → Ty) (pa pb : Nat → Nat)
def PRow (xs : List Value) (i : Nat) (nm : ByteArray) (of : Value) (a b v : Int) : Prop :=
 xs[5 * i]? = some (.string nm) ∧ xs[5 * i + 1]? = some of ∧ xs[5 * i + 2]? = some (.int .i64 a) ∧ xs[5 * i + 3]? = some (.int .i64 b) ∧ xs[5 * i + 4]? = some (.int .i64 v)
def Blk (w : World) (b : Nat) (c : Array Value) (t : TypeId) : Prop := w.heap[b]? = some (.cells c t (0, 0))
theorem Blk.lt {w : World} {b : Nat} {c : Array Value} {t : TypeId} (h : Blk w b c t) : b < w.heap.size := (Array.getElem?_eq_some_iff.1 h).1
theorem Blk.cell {w : World} {b : Nat} {c : Array Value} {t : TypeId} (h : Blk w b c t) (i : Nat) : w.cell? ⟨b, i, none⟩ = c[i]? := by
 simp only [Blk] at h; simp [World.cell?, h]
theorem Blk.free {w : World} {b : Nat} {c : Array Value} {t : TypeId} (h : Blk w b c t) (i : Nat) : w.frozen? ⟨b, i, none⟩ = false := by
 simp only [Blk] at h; simp [World.frozen?, h]
theorem Blk.of_eq {w w' : World} {b : Nat} {c : Array Value} {t : TypeId} (h : Blk w b c t) (e : w'.heap[b]? = w.heap[b]?) : Blk w' b c t := by
 unfold Blk; rw [e]; exact h
theorem Blk.below {B : Nat} {w w' : World} {b : Nat} {c : Array Value} {t : TypeId} (h : Blk w b c t) (hb : Below B w w') (hlt : b < B) : Blk w' b c t := h.of_eq (hb.block b hlt)
theorem Blk.old {w w' : World} {b : Nat} {c : Array Value} {t : TypeId} (h : Blk w b c t) (hb : Below w.heap.size w w') : Blk w' b c t := h.of_eq (hb.block b h.lt)
theorem Blk.alloc {w : World} {b : Nat} {c : Array Value} {t : TypeId} (h : Blk w b c t) (o : Obj) : Blk (w.alloc o) b c t := h.of_eq (Below.heap_alloc w o b h.lt)
theorem Blk.drew {w : World} {b : Nat} {c : Array Value} {t : TypeId} (h : Blk w b c t) : Blk w.drew b c t := h
theorem Blk.new (w : World) (c : Array Value) (t : TypeId) : Blk (w.alloc (.cells c t)) w.heap.size c t := heap_alloc_new w _
theorem Blk.other {w : World} {b : Nat} {c : Array Value} {t : TypeId} (h : Blk w b c t) {p : Addr} (hp : b ≠ p.block) (u : Value) : Blk (w.setCell p u) b c t :=
 h.of_eq (Below.heap_setCell w p u b hp)
theorem Blk.set {w : World} {b : Nat} {c : Array Value} {t : TypeId} (h : Blk w b c t) (i : Nat) (u : Value) : Blk (w.setCell ⟨b, i, none⟩ u) b (c.setIfInBounds i u) t := by
 unfold Blk at *; simp [World.setCell, Array.getElem?_modify, h]
theorem Blk.grown {w w' : World} {b : Nat} {c : Array Value} {t : TypeId} {row : Option Nat} (h : Blk w b c t) (hg : w.grownBy w' row) (hr : some b ≠ row) : Blk w' b c t :=
 h.of_eq (hg.block b h.lt hr)
inductive Rep (w : World) (D : Nat → Prop) : Nat → Ty → Prop
 | int {b sz : Nat} {sg : Bool} {nm : ByteArray} (h : Blk w b #[.int .i64 1, .string nm, .int .i64 sz, .bool sg, .pointer none, .slice none 0 0] 38) (hd : ¬ D b) : Rep w D b (.int sz sg nm)
 | ptr {b c : Nat} {t : Ty} (h : Blk w b #[.int .i64 2, .string ⟨#[]⟩, .int .i64 0, .bool false, .pointer (some ⟨c, 0, none⟩), .slice none 0 0] 38) (hd : ¬ D b) (r : Rep w D c t) : Rep w D b (.ptr t)
 | arr {b c n : Nat} {t : Ty} (h : Blk w b #[.int .i64 3, .string ⟨#[]⟩, .int .i64 n, .bool false, .pointer (some ⟨c, 0, none⟩), .slice none 0 0] 38) (hd : ¬ D b) (r : Rep w D c t) : Rep w D b (.arr n t)
 | named {b c : Nat} {nm : ByteArray} {t : Ty} (h : Blk w b #[.int .i64 8, .string nm, .int .i64 0, .bool false, .pointer (some ⟨c, 0, none⟩), .slice none 0 0] 38) (hd : ¬ D b) (r : Rep w D c t) : Rep w D b (.named nm t)
 | cst {b c : Nat} {t : Ty} (h : Blk w b #[.int .i64 10, .string ⟨#[]⟩, .int .i64 0, .bool false, .pointer (some ⟨c, 0, none⟩), .slice none 0 0] 38) (hd : ¬ D b) (r : Rep w D c t) : Rep w D b (.cst t)
 | enm {b n : Nat} {nm : ByteArray} {sg : Bool} {vn : Nat → ByteArray} {vv : Nat → Int} {v : Value} {xs : List Value}
   (h : Blk w b #[.int .i64 6, .string nm, .int .i64 4, .bool sg, .pointer none, v] 38) (hd : ¬ D b)
   (ho : w.ownsRow 0 56 5 v n xs) (hv : ∀ g, v.ownBlock = some g → ¬ D g) (hr : ∀ i, i < n → PRow xs i (vn i) (.pointer none) 0 0 (vv i)) : Rep w D b (.enm nm sg n vn vv)
 | comp {b sz n : Nat} {un : Bool} {nm : ByteArray} {pn : Nat → ByteArray} {py : Nat → Ty} {pa pb : Nat → Nat} {v : Value} {xs : List Value} {pc : Nat → Nat}
   (h : Blk w b #[.int .i64 (if un then 5 else 4), .string nm, .int .i64 sz, .bool false, .pointer none, v] 38) (hd : ¬ D b)
   (ho : w.ownsRow 0 56 5 v n xs) (hv : ∀ g, v.ownBlock = some g → ¬ D g)
   (hr : ∀ i, i < n → PRow xs i (pn i) (.pointer (some ⟨pc i, 0, none⟩)) (pa i) (pb i) 0) (hc : ∀ i, i < n → Rep w D (pc i) (py i)) : Rep w D b (.comp un nm sz n pn py pa pb)
theorem ownsRow_of {w w' : World} {base e size n : Nat} {v : Value} {xs : List Value} (h : w.ownsRow base e size v n xs)
  (he : ∀ g, v.ownBlock = some g → g < w.heap.size → w'.heap[g]? = w.heap[g]?) : w'.ownsRow base e size v n xs := by
 refine ⟨h.1, ?_⟩
 rcases h.2 with hn | ⟨g, cap, cur, rfl, hb, hgg, rest⟩
 ·exact .inl hn
 ·exact .inr ⟨g, cap, cur, rfl, hb, by rw [he g rfl (Array.getElem?_eq_some_iff.1 hgg).1]; exact hgg, rest⟩
theorem ownsRow_base {w : World} {base base' e size n : Nat} {v : Value} {xs : List Value} (h : w.ownsRow base e size v n xs) (hb : base' ≤ base) : w.ownsRow base' e size v n xs := by
 refine ⟨h.1, ?_⟩
 rcases h.2 with hn | ⟨g, cap, cur, rfl, hb', rest⟩
 ·exact .inl hn
 ·exact .inr ⟨g, cap, cur, rfl, Nat.le_trans hb hb', rest⟩
theorem Rep.keep {w w' : World} {D D' : Nat → Prop} (hS : ∀ b, b < w.heap.size → ¬ D b → w'.heap[b]? = w.heap[b]?) (hD : ∀ b, b < w.heap.size → D' b → D b)
  {b : Nat} {t : Ty} (r : Rep w D b t) : Rep w' D' b t := by
 induction r with
 | int h hd => exact .int (h.of_eq (hS _ h.lt hd)) (fun x => hd (hD _ h.lt x))
 | ptr h hd _ ih => exact .ptr (h.of_eq (hS _ h.lt hd)) (fun x => hd (hD _ h.lt x)) ih
 | arr h hd _ ih => exact .arr (h.of_eq (hS _ h.lt hd)) (fun x => hd (hD _ h.lt x)) ih
 | named h hd _ ih => exact .named (h.of_eq (hS _ h.lt hd)) (fun x => hd (hD _ h.lt x)) ih
 | cst h hd _ ih => exact .cst (h.of_eq (hS _ h.lt hd)) (fun x => hd (hD _ h.lt x)) ih
 | enm h hd ho hv hr => exact .enm (h.of_eq (hS _ h.lt hd)) (fun x => hd (hD _ h.lt x)) (ownsRow_of ho fun g hg hl => hS g hl (hv g hg)) (fun g hg x => hv g hg (hD g (ho.lt g hg).2 x)) hr
 | comp h hd ho hv hr _ ih => exact .comp (h.of_eq (hS _ h.lt hd)) (fun x => hd (hD _ h.lt x)) (ownsRow_of ho fun g hg hl => hS g hl (hv g hg)) (fun g hg x => hv g hg (hD g (ho.lt g hg).2 x)) hr ih
theorem Rep.old {w w' : World} {D : Nat → Prop} {b : Nat} {t : Ty} (r : Rep w D b t) (hb : Below w.heap.size w w') : Rep w' D b t := r.keep (fun k hk _ => hb.block k hk) (fun _ _ h => h)
theorem Rep.weaken {w : World} {D D' : Nat → Prop} {b : Nat} {t : Ty} (r : Rep w D b t) (hD : ∀ b, b < w.heap.size → D' b → D b) : Rep w D' b t := r.keep (fun _ _ _ => rfl) hD
theorem Rep.head {w : World} {D : Nat → Prop} {b : Nat} {t : Ty} (r : Rep w D b t) : ∃ k nm s g o v, Blk w b #[.int .i64 k, .string nm, .int .i64 s, .bool g, .pointer o, v] 38 ∧ ¬ D b := by
 cases r with
 | int h hd => exact ⟨_, _, _, _, _, _, h, hd⟩
 | ptr h hd _ => exact ⟨_, _, _, _, _, _, h, hd⟩
 | arr h hd _ => exact ⟨_, _, _, _, _, _, h, hd⟩
 | named h hd _ => exact ⟨_, _, _, _, _, _, h, hd⟩
 | cst h hd _ => exact ⟨_, _, _, _, _, _, h, hd⟩
 | enm h hd _ _ _ => exact ⟨_, _, _, _, _, _, h, hd⟩
 | comp h hd _ _ _ _ => exact ⟨_, _, _, _, _, _, h, hd⟩
theorem Rep.lt {w : World} {D : Nat → Prop} {b : Nat} {t : Ty} (r : Rep w D b t) : b < w.heap.size := by
 obtain ⟨_, _, _, _, _, _, h, _⟩ := r.head; exact h.lt
theorem Rep.not {w : World} {D : Nat → Prop} {b : Nat} {t : Ty} (r : Rep w D b t) : ¬ D b := by
 obtain ⟨_, _, _, _, _, _, _, h⟩ := r.head; exact h
def Ty.bytes : Ty → Nat
 | .int sz _ _ => sz
 | .ptr _ => 8
 | .arr n t => n * t.bytes
 | .named _ t => t.bytes
 | .cst t => t.bytes
 | .enm .. => 4
 | .comp _ _ sz .. => sz
def Ty.behind : Ty → Ty
 | .named _ t => t.behind
 | .cst t => t.behind
 | t => t
def Ty.kind : Ty → Nat
 | .int .. => 1
 | .ptr _ => 2
 | .arr .. => 3
 | .named .. => 8
 | .cst _ => 10
 | .enm .. => 6
 | .comp un .. => if un then 5 else 4
def al : Ty → Nat
 | .int sz _ _ => sz
 | .enm .. => 4
 | .arr _ t => al t
 | .named _ t => al t
 | .cst t => al t
 | .ptr _ => 0
 | .comp .. => 0
def IntT (t : Ty) : Prop := ∃ sz sg nm, t = .int sz sg nm ∧ (sz = 1 ∨ sz = 2 ∨ sz = 4 ∨ sz = 8) ∧ nm.size ≤ 2
def EnmT (t : Ty) : Prop := ∃ nm sg n vn vv, t = .enm nm sg n vn vv ∧ 1 ≤ n ∧ n ≤ 4 ∧ nm.size ≤ 2 ∧ ∀ i, i < n → (vn i).size = 2 ∧ 0 ≤ vv i ∧ vv i < 256
inductive Leaf : Ty → Prop
 | int {t : Ty} (h : IntT t) : Leaf t
 | ptr {t : Ty} (h : IntT t) : Leaf (.ptr t)
 | enm {t : Ty} (h : EnmT t) : Leaf t
 | arr {n : Nat} {t : Ty} (h : IntT t) (h1 : 1 ≤ n) (h6 : n ≤ 6) : Leaf (.arr n t)
 | named {nm : ByteArray} {t : Ty} (h : IntT t) (hn : nm.size ≤ 8) : Leaf (.named nm t)
 | cst {t : Ty} (h : IntT t) : Leaf (.cst t)
def BitsOk (y : Ty) (a b : Nat) : Prop := (b = 0 ∧ a % (8 * max 1 (al y)) = 0) ∨ ∃ sz sg nm, y = .int sz sg nm ∧ (1 ≤ b ∧ b ≤ 8 * sz) ∧ a % (8 * sz) + b ≤ 8 * sz
def Al8 (y : Ty) : Prop := al y = 0 ∨ al y = 1 ∨ al y = 2 ∨ al y = 4 ∨ al y = 8
theorem Al8.mod {y : Ty} (h : Al8 y) {a : Nat} (ha : a % 64 = 0) : a % (8 * max 1 (al y)) = 0 := by
 rcases h with e | e | e | e | e <;> rw [e] <;> simp only [show max 1 0 = 1 from rfl, show max 1 1 = 1 from rfl, show max 1 2 = 2 from rfl, show max 1 4 = 4 from rfl, show max 1 8 = 8 from rfl] <;> omega
theorem IntT.al8 {t : Ty} (h : IntT t) : Al8 t := by
 obtain ⟨sz, sg, nm, rfl, h, _⟩ := h
 exact .inr h
theorem Leaf.al8 {t : Ty} (h : Leaf t) : Al8 t := by
 cases h with
 | int h => exact h.al8
 | ptr h => exact .inl rfl
 | enm h => obtain ⟨_, _, _, _, _, rfl, _⟩ := h; exact .inr (.inr (.inr (.inl rfl)))
 | arr h _ _ => exact h.al8
 | named h _ => exact h.al8
 | cst h => exact h.al8
def AlB (t : Ty) : Prop := (∀ m u, t ≠ .arr m u) → al t = 0 ∨ (al t = t.bytes ∧ (t.bytes = 1 ∨ t.bytes = 2 ∨ t.bytes = 4 ∨ t.bytes = 8))
theorem Leaf.alB {t : Ty} (h : Leaf t) : AlB t := by
 intro hne
 cases h with
 | int h => obtain ⟨sz, sg, nm, rfl, h, _⟩ := h; exact .inr ⟨rfl, h⟩
 | ptr h => exact .inl rfl
 | enm h => obtain ⟨_, _, _, _, _, rfl, _⟩ := h; exact .inr ⟨rfl, .inr (.inr (.inl rfl))⟩
 | arr h _ _ => exact absurd rfl (hne _ _)
 | named h _ => obtain ⟨sz, sg, nm, rfl, h, _⟩ := h; exact .inr ⟨rfl, h⟩
 | cst h => obtain ⟨sz, sg, nm, rfl, h, _⟩ := h; exact .inr ⟨rfl, h⟩
theorem mod_step {a s m : Nat} (h1 : a % (8 * s) = 0) (h2 : s % m = 0) : a % (8 * m) = 0 :=
 Nat.mod_eq_zero_of_dvd (Nat.dvd_trans (Nat.mul_dvd_mul_left 8 (Nat.dvd_of_mod_eq_zero h2)) (Nat.dvd_of_mod_eq_zero h1))
theorem AlB.step {t : Ty} {mxb stp : Nat} (h : AlB t) (hne : ∀ m u, t ≠ .arr m u) (h1 : (if (1 : Int) < (t.bytes : Int) then (t.bytes : Int) else 1) = mxb) (h2 : (if (mxb : Int) < 8 then (mxb : Int) else 8) = stp) : stp % max 1 (al t) = 0 := by
 rcases h hne with e | ⟨e, h⟩
 ·rw [e]; exact Nat.mod_one _
 ·rw [e]
  have : stp = t.bytes := by
   generalize t.bytes = z at h h1
   split at h1 <;> split at h2 <;> omega
  rw [this, show max 1 t.bytes = t.bytes from Nat.max_eq_right (by omega)]
  exact Nat.mod_self _
def ElemOk (P : Program) (t e size bytes : Nat) : Prop :=
 ∃ i z, P.underlying t = some (.slice e) ∧ P.info? e = some i ∧ i.zero = some z ∧ i.size = size ∧ i.bytes = bytes ∧ z.cells.size = size ∧ 0 < size
theorem ElemOk.of {P : Program} {t e size bytes : Nat} {z : Value} (ht : P.underlying t = some (.slice e)) (h : (P.info? e).map (fun i => (i.zero, i.size, i.bytes)) = some (some z, size, bytes)) (hz : z.cells.size = size) (hs : 0 < size) : ElemOk P t e size bytes := by
 obtain ⟨i, hi, h1, h2, h3⟩ := info_parts h
 exact ⟨i, z, ht, hi, h1, h2, h3, hz, hs⟩
theorem elemParts : ElemOk Tryz.prog 36 56 5 48 := .of (z := .agg #[.string ⟨#[]⟩, .pointer none, .int .i64 0, .int .i64 0, .int .i64 0]) Tryz.underlying36 (by kernel_rfl) (by rfl) (by decide)
section
variable {P : Program} {ops : Array Oper} {rest : List Oper} {o : Oper} {a : Act} {w : World} {K : Act → World → Prop} {Q : Exit → Act → World → Prop} {E : Prop} {t e size bytes : Nat}
def Appended (w : World) (base e size : Nat) (v : Value) (n m : Nat) (xs news : List Value) (g cap : Nat) (w' : World) : Prop :=
 w'.ownsRow base e size (.slice (some ⟨g, 0, none⟩) (n + m) cap) (n + m) (xs ++ news) ∧ w.grownBy w' v.ownBlock ∧ (v.ownBlock = some g ∨ g = w.heap.size) ∧ g < w'.heap.size
theorem wpList_app (H : ElemOk P t e size bytes) (s x : Operand) (hgd : o.guard = none) (ho : o.op = .call { callee := .builtin .append, args := #[s, x], argTypes := #[t, t] })
  (base : Nat) (v : Value) (n : Nat) (xs : List Value) (hs : a.eval s = v) (hown : w.ownsRow base e size v n xs)
  (B : Nat) (m c : Nat) (news : Array Value) (hx : a.eval x = .slice (some ⟨B, 0, none⟩) m c) (hB : Blk w B news e) (hl : news.size = m * size) (h1 : news.toList.all Value.oneCell' = true)
  (hm : 0 < m) (h : ∀ g cap w', Appended w base e size v n m xs news.toList g cap w' → wpList P ops Q rest (a.put o.dst (.slice (some ⟨g, 0, none⟩) (n + m) cap)) w')
  (hbytes : (n + m) * bytes ≤ 140737488355328) (h63 : n + m ≤ maxLen) (hbase : base ≤ w.heap.size) : wpList P ops Q (o :: rest) a w := by
 obtain ⟨i, z, ht, hi, hz, hsz, hby, hzs, h0⟩ := H
 exact wpList_append_lies w hgd s x t ho base e i z size bytes ht hi hz hsz hby hzs h0 v n xs hs hown ⟨B, 0, none⟩ m c news.toList hx (by simpa using hl) (World.news_of_block hB) (fun u hu => List.all_eq_true.1 h1 u hu) hm h63 hbytes hbase _ rfl
  (fun g cap w' a1 a2 a3 a4 => h g cap w' ⟨a1, a2, a3, a4⟩)
theorem step_app (H : ElemOk P t e size bytes) (s x : Operand) (hgd : o.guard = none) (ho : o.op = .call { callee := .builtin .append, args := #[s, x], argTypes := #[t, t] })
  (base : Nat) (v : Value) (n : Nat) (xs : List Value) (hs : a.eval s = v) (hown : w.ownsRow base e size v n xs)
  (B : Nat) (m c : Nat) (news : Array Value) (hx : a.eval x = .slice (some ⟨B, 0, none⟩) m c) (hB : Blk w B news e) (hl : news.size = m * size) (h1 : news.toList.all Value.oneCell' = true)
  (hm : 0 < m) (h : ∀ g cap w', Appended w base e size v n m xs news.toList g cap w' → K (a.put o.dst (.slice (some ⟨g, 0, none⟩) (n + m) cap)) w')
  (hbytes : (n + m) * bytes ≤ 140737488355328) (h63 : n + m ≤ maxLen) (hbase : base ≤ w.heap.size) :
  if Region.wanted o (yielded ops a.tmps) = true then Oper.wp P o a w K Q else E := by
 obtain ⟨i, z, ht, hi, hz, hsz, hby, hzs, h0⟩ := H
 exact step_append_lies w hgd s x t ho base e i z size bytes ht hi hz hsz hby hzs h0 v n xs hs hown ⟨B, 0, none⟩ m c news.toList hx (by simpa using hl) (World.news_of_block hB) (fun u hu => List.all_eq_true.1 h1 u hu) hm h63 hbytes hbase _ rfl
  (fun g cap w' a1 a2 a3 a4 => h g cap w' ⟨a1, a2, a3, a4⟩)
end
theorem own_ne {w : World} {base e size n : Nat} {v : Value} {xs : List Value} (h : w.ownsRow base e size v n xs) {b : Nat} (hb : b < base) : some b ≠ v.ownBlock := fun x => by
 have := (h.lt b x.symm).1; omega
theorem Blk.app {w w' : World} {base e size n m g cap : Nat} {v : Value} {xs news : List Value} {b : Nat} {c : Array Value} {t : TypeId} (h : Blk w b c t) (ha : Appended w base e size v n m xs news g cap w')
  (hown : w.ownsRow base e size v n xs) (hb : b < base) : Blk w' b c t := h.grown ha.2.1 (own_ne hown hb)
theorem Appended.below {W w w' : World} {base e size n m g cap : Nat} {v : Value} {xs news : List Value} (ha : Appended w base e size v n m xs news g cap w') (hown : w.ownsRow base e size v n xs)
  {B : Nat} (hW : Below B W w) (hB : B ≤ w.heap.size) (hb : B ≤ base) : Below B W w' :=
 hW.grown ha.2.1 hB (fun k hk => by have := (hown.lt k hk).1; omega)
theorem PRow.left {xs ys : List Value} {i n : Nat} {nm : ByteArray} {of : Value} {a b v : Int} (h : PRow xs i nm of a b v) (hx : xs.length = n * 5) (hi : i < n) : PRow (xs ++ ys) i nm of a b v := by
 obtain ⟨h1, h2, h3, h4, h5⟩ := h
 refine ⟨?_, ?_, ?_, ?_, ?_⟩ <;> (rw [List.getElem?_append_left (by omega)]; assumption)
theorem PRow.last {xs : List Value} {n : Nat} (nm : ByteArray) (of : Value) (a b v : Int) (hx : xs.length = n * 5) : PRow (xs ++ [.string nm, of, .int .i64 a, .int .i64 b, .int .i64 v]) n nm of a b v := by
 refine ⟨?_, ?_, ?_, ?_, ?_⟩
 ·rw [List.getElem?_append_right (by omega), show 5 * n - xs.length = 0 by omega]; rfl
 ·rw [List.getElem?_append_right (by omega), show 5 * n + 1 - xs.length = 1 by omega]; rfl
 ·rw [List.getElem?_append_right (by omega), show 5 * n + 2 - xs.length = 2 by omega]; rfl
 ·rw [List.getElem?_append_right (by omega), show 5 * n + 3 - xs.length = 3 by omega]; rfl
 ·rw [List.getElem?_append_right (by omega), show 5 * n + 4 - xs.length = 4 by omega]; rfl
theorem ownsRow_setCell {w : World} {base e size n : Nat} {v : Value} {xs : List Value} (h : w.ownsRow base e size v n xs) {p : Addr} (hp : some p.block ≠ v.ownBlock) (u : Value) : (w.setCell p u).ownsRow base e size v n xs :=
 ownsRow_of h fun g hg _ => Below.heap_setCell w p u g (fun x => hp (by rw [hg, x]))
def upd {α : Type} (f : Nat → α) (k : Nat) (x : α) : Nat → α := fun i => if i = k then x else f i
theorem upd_same {α : Type} (f : Nat → α) (k : Nat) (x : α) : upd f k x k = x := by simp [upd]
theorem upd_other {α : Type} (f : Nat → α) {k i : Nat} (x : α) (h : i < k) : upd f k x i = f i := by
 unfold upd; rw [if_neg (by omega)]
theorem Blk.six {w : World} {b : Nat} {a0 a1 a2 a3 a4 a5 : Value} {t : TypeId} (h : Blk w b #[a0, a1, a2, a3, a4, a5] t) :
  w.cell? ⟨b, 0, none⟩ = some a0 ∧ w.cell? ⟨b, 1, none⟩ = some a1 ∧ w.cell? ⟨b, 2, none⟩ = some a2 ∧ w.cell? ⟨b, 3, none⟩ = some a3 ∧ w.cell? ⟨b, 4, none⟩ = some a4 ∧ w.cell? ⟨b, 5, none⟩ = some a5 :=
 ⟨h.cell 0, h.cell 1, h.cell 2, h.cell 3, h.cell 4, h.cell 5⟩
theorem Blk.five {w : World} {b : Nat} {a0 a1 a2 a3 a4 : Value} {t : TypeId} (h : Blk w b #[a0, a1, a2, a3, a4] t) :
  w.cell? ⟨b, 0, none⟩ = some a0 ∧ w.cell? ⟨b, 1, none⟩ = some a1 ∧ w.cell? ⟨b, 2, none⟩ = some a2 ∧ w.cell? ⟨b, 3, none⟩ = some a3 ∧ w.cell? ⟨b, 4, none⟩ = some a4 :=
 ⟨h.cell 0, h.cell 1, h.cell 2, h.cell 3, h.cell 4⟩
def Ty.layers : Ty → Nat
 | .named _ t => t.layers + 1
 | .cst t => t.layers + 1
 | _ => 0
theorem Rep.peel {w : World} {D : Nat → Prop} {b : Nat} {t : Ty} (r : Rep w D b t) :
  (∃ k : Int, w.cell? ⟨b, 0, none⟩ = some (.int .i64 k) ∧ k = t.kind ∧ (k == 8) = false ∧ (k == 10) = false ∧ t.behind = t) ∨
  (∃ c u, w.cell? ⟨b, 0, none⟩ = some (.int .i64 8) ∧ w.cell? ⟨b, 4, none⟩ = some (.pointer (some ⟨c, 0, none⟩)) ∧ Rep w D c u ∧ t.behind = u.behind ∧ t.layers = u.layers + 1) ∨
  (∃ c u, w.cell? ⟨b, 0, none⟩ = some (.int .i64 10) ∧ w.cell? ⟨b, 4, none⟩ = some (.pointer (some ⟨c, 0, none⟩)) ∧ Rep w D c u ∧ t.behind = u.behind ∧ t.layers = u.layers + 1) := by
 cases r with
 | int h hd => exact .inl ⟨1, h.cell 0, rfl, rfl, rfl, rfl⟩
 | ptr h hd _ => exact .inl ⟨2, h.cell 0, rfl, rfl, rfl, rfl⟩
 | arr h hd _ => exact .inl ⟨3, h.cell 0, rfl, rfl, rfl, rfl⟩
 | named h hd r => exact .inr (.inl ⟨_, _, h.cell 0, h.cell 4, r, rfl, rfl⟩)
 | cst h hd r => exact .inr (.inr ⟨_, _, h.cell 0, h.cell 4, r, rfl, rfl⟩)
 | enm h hd _ _ _ => exact .inl ⟨6, h.cell 0, rfl, rfl, rfl, rfl⟩
 | @comp b sz n un nm pn py pa pb v xs pc h hd _ _ _ _ => cases un <;> exact .inl ⟨_, h.cell 0, rfl, rfl, rfl, rfl⟩
def AtEnd (R : Act → World → Prop) : Exit → Act → World → Prop
 | .normal, a, w => R a w
 | _, _, _ => False
theorem wp_meet {P : Program} {c : Code} {Q : Exit → Act → World → Prop} {a : Act} {w : World} (Φ : Nat → Nat → World → World → Prop) (A : Nat → Nat → Act)
  (h1 : c.wp P (AtEnd fun a' w' => ∃ x y w1, Φ x y w1 w' ∧ a' = A x y) a w) (h2 : ∀ x y w1 w', Φ x y w1 w' → Q .normal (A x y) w') : c.wp P Q a w :=
 wp_mono h1 fun e a' w' h => by
  cases e with
  | normal => obtain ⟨x, y, w1, hx, rfl⟩ := h; exact h2 x y w1 w' hx
  | _ => exact h.elim
theorem u32_mask1 (a : Int) (h1 : 0 ≤ a) (h2 : a < 4294967296) : bits .and .u32 a 1 = a % 2 := by
 rw [u32_and a 1 h1 h2 (by omega) (by omega)]; simp only [show (1 : Int).toNat = 1 from rfl, nat_mask1]; omega
theorem u32_mask7 (a : Int) (h1 : 0 ≤ a) (h2 : a < 4294967296) : bits .and .u32 a 7 = a % 8 := by
 rw [u32_and a 7 h1 h2 (by omega) (by omega)]; simp only [show (7 : Int).toNat = 7 from rfl, nat_mask3]; omega
theorem u32_mask255 (a : Int) (h1 : 0 ≤ a) (h2 : a < 4294967296) : bits .and .u32 a 255 = a % 256 := by
 rw [u32_and a 255 h1 h2 (by omega) (by omega)]; simp only [show (255 : Int).toNat = 255 from rfl, nat_mask8]; omega
theorem enc1 : Utf8.encode 49 = ⟨#[49]⟩ ∧ Utf8.encode 50 = ⟨#[50]⟩ ∧ Utf8.encode 52 = ⟨#[52]⟩ ∧ Utf8.encode 56 = ⟨#[56]⟩ := by
 refine ⟨?_, ?_, ?_, ?_⟩ <;> kernel_rfl
theorem enc2 : Utf8.encode 48 = ⟨#[48]⟩ ∧ Utf8.encode 51 = ⟨#[51]⟩ ∧ Utf8.encode 53 = ⟨#[53]⟩ := by
 refine ⟨?_, ?_, ?_⟩ <;> kernel_rfl
def Made (w : World) (F : Ty → Prop) (e : Ending) (w' : World) : Prop :=
 ∃ b t, e = .returned (.pointer (some ⟨b, 0, none⟩)) ∧ Rep w' (· < w.heap.size) b t ∧ F t ∧ Below w.heap.size w w'
theorem Made.mono {w : World} {F G : Ty → Prop} {e : Ending} {w' : World} (h : Made w F e w') (hg : ∀ t, F t → G t) : Made w G e w' := by
 obtain ⟨b, t, h1, h2, h3, h4⟩ := h
 exact ⟨b, t, h1, h2, hg t h3, h4⟩
theorem made_int {W w1 : World} {k : Int} {sz : Nat} {nm : ByteArray} {sg : Bool} {B : Nat} (hk : k = sz) (hs : sz = 1 ∨ sz = 2 ∨ sz = 4 ∨ sz = 8) (hn : nm.size ≤ 2) (hb : Below W.heap.size W w1) (hB : B = w1.heap.size) :
  Made W IntT (.returned (.pointer (some ⟨B, 0, none⟩))) (w1.alloc (.cells #[.int .i64 1, .string nm, .int .i64 k, .bool sg, .pointer none, .slice none 0 0] 38)) := by
 subst hk; subst hB
 exact ⟨_, _, rfl, .int (Blk.new _ _ _) (fun h => Nat.not_lt.2 hb.size h), ⟨_, _, _, rfl, hs, hn⟩, hb.alloc hb.size _⟩
theorem intOf_any (n : Nat) (w : World) (hn : n < 4294967296) :
  Calls Tryz.prog 23 #[.int .u32 n] w (Made w IntT) := by
 obtain ⟨e1, e2, e4, e8⟩ := enc1
 have h1 := u32_mask1 (n / 4) (by omega) (by omega)
 rcases (by omega : (n : Int) / 4 % 2 = 0 ∨ (n : Int) / 4 % 2 = 1) with h | h
 all_goals
  rw [h] at h1
  clear h
  rcases (by omega : n % 4 = 0 ∨ n % 4 = 1 ∨ n % 4 = 2 ∨ n % 4 = 3) with h | h | h | h
  all_goals
   have h2 : (n : Int) % 4 = (n % 4 : Nat) := by omega
   rw [h] at h2
   go_enter Tryz.func23, Tryz.ntmps23
   go_wp2
   go_ret
   exact made_int (sz := 2 ^ (n % 4)) (by rw [h]; rfl) (by rw [h]; decide) (by decide) ((Below.refl _ _).alloc (Nat.le_refl _) _) (by simp)
theorem enc_digit (x : Int) (h0 : 0 ≤ x) (h1 : x < 6) : ∃ c, Utf8.encode (48 + x) = ⟨#[c]⟩ := by
 obtain ⟨e1, e2, e4, e8⟩ := enc1
 obtain ⟨e0, e3, e5⟩ := enc2
 rcases (by omega : x = 0 ∨ x = 1 ∨ x = 2 ∨ x = 3 ∨ x = 4 ∨ x = 5) with rfl | rfl | rfl | rfl | rfl | rfl
 ·exact ⟨_, e0⟩
 ·exact ⟨_, e1⟩
 ·exact ⟨_, e2⟩
 ·exact ⟨_, e3⟩
 ·exact ⟨_, e4⟩
 ·exact ⟨_, e5⟩
theorem string_add2 (w : World) (a b : UInt8) : (Op.stringOp .add ⟨#[a]⟩ ⟨#[b]⟩).run Tryz.prog w = .ok (.string ⟨#[a, b]⟩) w :=
 run_string_add_sum w ⟨#[a]⟩ ⟨#[b]⟩ (by show 2 ≤ _; decide)
structure EnmSt (W : World) (tb : Nat) (nm : ByteArray) (sg : Bool) (k : Nat) (v : Value) (xs : List Value) (vn : Nat → ByteArray) (vv : Nat → Int) (w : World) : Prop where
 blk : Blk w tb #[.int .i64 6, .string nm, .int .i64 4, .bool sg, .pointer none, v] 38
 own : w.ownsRow (tb + 1) 56 5 v k xs
 row : ∀ i, i < k → PRow xs i (vn i) (.pointer none) 0 0 (vv i)
 ok : ∀ i, i < k → (vn i).size = 2 ∧ 0 ≤ vv i ∧ vv i < 256
 old : Below W.heap.size W w
 lo : W.heap.size ≤ tb
def EnmLoop (W : World) (tb : Nat) (nm : ByteArray) (sg : Bool) (m : Nat) (i : Value) (w : World) : Prop :=
 ∃ k v xs vn vv, EnmSt W tb nm sg k v xs vn vv w ∧ k ≤ m ∧ i = .int .u32 (k : Nat)
theorem EnmSt.step {W w w1 : World} {tb : Nat} {nm : ByteArray} {sg : Bool} {k : Nat} {v : Value} {xs : List Value} {vn : Nat → ByteArray} {vv : Nat → Int} (st : EnmSt W tb nm sg k v xs vn vv w) {o : Obj} {a b : UInt8} {z : Int} (hz : 0 ≤ z ∧ z < 256)
  {g cap : Nat} (ha : Appended (w.alloc o) (tb + 1) 56 5 v k 1 xs [.string ⟨#[a, b]⟩, .pointer none, .int .i64 0, .int .i64 0, .int .i64 z] g cap w1) :
  EnmSt W tb nm sg (k + 1) (.slice (some ⟨g, 0, none⟩) (k + 1) cap) (xs ++ [.string ⟨#[a, b]⟩, .pointer none, .int .i64 0, .int .i64 0, .int .i64 z]) (upd vn k ⟨#[a, b]⟩) (upd vv k z)
   (w1.setCell ⟨tb, 5, none⟩ (.slice (some ⟨g, 0, none⟩) (k + 1) cap)) := by
 have hlo : tb + 1 ≤ g := by
  have := ha.1.lt g rfl; omega
 have hl := st.own.1
 have hT := ((st.blk.alloc o).app ha (st.own.alloc o) (Nat.lt_succ_self _)).set 5 (.slice (some ⟨g, 0, none⟩) (k + 1) cap)
 refine ⟨hT, ownsRow_setCell ha.1 (fun x => by simp [Value.ownBlock] at x; omega) _, ?_, ?_, ?_, st.lo⟩
 ·intro i hi
  by_cases h : i < k
  ·rw [upd_other _ _ h, upd_other _ _ h]; exact (st.row i h).left hl h
  ·obtain rfl : i = k := by omega
   rw [upd_same, upd_same]; exact PRow.last _ _ _ _ _ hl
 ·intro i hi
  by_cases h : i < k
  ·rw [upd_other _ _ h, upd_other _ _ h]; exact st.ok i h
  ·obtain rfl : i = k := by omega
   rw [upd_same, upd_same]; exact ⟨rfl, hz⟩
 ·have hs := st.old.size
  exact (ha.below (st.own.alloc o) (st.old.alloc hs _) (by simp; omega) (by have := st.lo; omega)).setCell st.lo _
theorem EnmSt.done {W w : World} {tb : Nat} {nm : ByteArray} {sg : Bool} {k : Nat} {v : Value} {xs : List Value} {vn : Nat → ByteArray} {vv : Nat → Int} (st : EnmSt W tb nm sg k v xs vn vv w) (h1 : 1 ≤ k) (h4 : k ≤ 4) (hn : nm.size ≤ 2) :
  Made W EnmT (.returned (.pointer (some ⟨tb, 0, none⟩))) w :=
 ⟨tb, _, rfl, .enm st.blk (Nat.not_lt.2 st.lo) (ownsRow_base st.own (Nat.zero_le _)) (fun g hg => Nat.not_lt.2 (by have := (st.own.lt g hg).1; have := st.lo; omega)) st.row, ⟨nm, sg, k, vn, vv, rfl, h1, h4, hn, st.ok⟩, st.old⟩
theorem EnmSt.start (W w : World) (nm : ByteArray) (sg : Bool) (hb : Below W.heap.size W w) {tb : Nat} (htb : tb = w.heap.size) :
  EnmSt W tb nm sg 0 (.slice none 0 0) [] (fun _ => ⟨#[]⟩) (fun _ => 0) (w.alloc (.cells #[.int .i64 6, .string nm, .int .i64 4, .bool sg, .pointer none, .slice none 0 0] 38)) := by
 subst htb
 exact ⟨Blk.new _ _ _, World.ownsRow_nil _ _ _ _, fun i h => by omega, fun i h => by omega, hb.alloc hb.size _, hb.size⟩
theorem enumOf_any (n : Nat) (w : World) (hn : n < 4294967296) :
  Calls Tryz.prog 19 #[.int .u32 n] w (Made w EnmT) := by
 have hn3 : (1 + n / 8 % 4) ≤ 4 := by omega
 rcases (by omega : (n : Int) % 4 = 0 ∨ (n : Int) % 4 = 1 ∨ (n : Int) % 4 = 2 ∨ (n : Int) % 4 = 3) with h | h | h | h
 all_goals
  go_enter Tryz.func19, Tryz.ntmps19
  go_wp2
  go_loopw [20] (fun i wr => ∃ nm : ByteArray, nm.size ≤ 2 ∧ EnmLoop w (w.heap.size + 1) nm (bits BinOp.and IntKind.u32 (↑n / 4) 1 == 1) (1 + n / 8 % 4) i wr) (fun i _ => (1 + n / 8 % 4) - (intOf i).toNat)
  case atStart => exact ⟨_, (by decide), 0, _, _, _, _, EnmSt.start w _ _ _ ((Below.refl _ _).alloc (Nat.le_refl _) _) (by simp), Nat.zero_le _, rfl⟩
  case round =>
   obtain ⟨nm, hnm, k, v, xs, vn, vv, st, hk, rfl⟩ := hrel
   by_cases hlt : k < 1 + n / 8 % 4
   ·have hc := st.blk.cell 5
    have hf := st.blk.free 5
    simp only [List.getElem?_toArray, List.getElem?_cons_succ, List.getElem?_cons_zero] at hc
    obtain ⟨c, hen0⟩ := enc_digit ((k + n / 32) % 6) (by omega) (by omega)
    have hen : True → Utf8.encode (48 + ((k : Int) + n / 32) % 6) = ⟨#[c]⟩ := fun _ => hen0
    clear hen0
    have hadd := fun wx => string_add2 wx 86 c
    have hq : (n : Int) / 2 ^ (6 + k) = ((n / 2 ^ (6 + k) : Nat) : Int) := by simp
    have hq2 : n / 2 ^ (6 + k) < 4294967296 := Nat.lt_of_le_of_lt (Nat.div_le_self _ _) hn
    generalize n / 2 ^ (6 + k) = q at hq hq2
    have hm := u32_mask255 (q : Int) (by omega) (by omega)
    go_wp2_with (at_builtin; refine wpList_app elemParts (.tmp 27) (.tmp 44) rfl rfl (w.heap.size + 1 + 1) v k xs rfl (st.own.alloc _) wr.heap.size 1 1 _ rfl (Blk.new _ _ _) rfl rfl (by decide) ?_ ?h1 ?h2 ?h3; intro g cap w1 ha; have hc1 := ((st.blk.alloc _).app ha (st.own.alloc _) (Nat.lt_succ_self _)).cell 5; have hf1 := ((st.blk.alloc _).app ha (st.own.alloc _) (Nat.lt_succ_self _)).free 5; simp only [List.getElem?_toArray, List.getElem?_cons_succ, List.getElem?_cons_zero] at hc1; clear hc hf hm)
    case h1 => omega
    case h2 => unfold maxLen; omega
    case h3 => have := st.blk.lt; simp; omega
    go_roundw
    case rel =>
     exact ⟨nm, hnm, k + 1, _, _, _, _, st.step (by omega) ha, hlt, by go_num⟩
    case measure => simp [intOf]; omega
   ·have hk2 : k = 1 + n / 8 % 4 := by omega
    have Hk := Lib.hid hk2
    clear hk2
    go_wp2
    go_ret
    exact st.done (by have := Hk.out; omega) (by omega) hnm
end Go.Proofs.YtfilbgmbmlmdbaaGreatDoor
