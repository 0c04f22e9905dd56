/- What was met on the way of a comparison of types: the map and what a call leaves of it. Nothing is claimed here. -/
import Derived.Test.YtfilbgmbmlmdbaaGreatDoorZ16
import Derived.Stop.IfaceNil
set_option linter.unusedSimpArgs false
set_option linter.unusedVariables false
set_option maxRecDepth 1000000
set_option maxHeartbeats 16000000
namespace Go.Proofs.YtfilbgmbmlmdbaaGreatDoor
open Go.RowKit Go.MapKept
structure Two where
 n1 : Nat
 n2 : Nat
 f1 : Nat → RowD
 f2 : Nat → RowD
 og1 : Nat
 og2 : Nat
 pt1 : Nat → TypeId
 pt2 : Nat → TypeId
 ob1 : Nat → Nat
 ob2 : Nat → Nat
structure Two.In (T : Two) (w : World) : Prop where
 h1 : Outs w T.n1 T.f1 T.og1 T.pt1 T.ob1
 h2 : Outs w T.n2 T.f2 T.og2 T.pt2 T.ob2
 p1 : Peels T.n1 T.f1
 p2 : Peels T.n2 T.f2
theorem Two.In.ck {T : Two} {w w' : World} (h : T.In w) (hc : CellsKept w w') : T.In w' := ⟨h.h1.ck hc, h.h2.ck hc, h.p1, h.p2⟩
def Two.pair (T : Two) (i j : Nat) : Value := .agg #[objAt T.pt1 T.ob1 i, objAt T.pt2 T.ob2 j]
theorem Two.In.inj {T : Two} {w : World} (h : T.In w) {i j i' j' : Nat} (hi : i < T.n1) (hj : j < T.n2) (hi' : i' < T.n1) (hj' : j' < T.n2) (e : T.pair i j = T.pair i' j') : i = i' ∧ j = j' := by
 have one : ∀ {n og : Nat} {f : Nat → RowD} {pt : Nat → TypeId} {ob : Nat → Nat}, Outs w n f og pt ob → ∀ {x y}, x < n → y < n → ob (x + 1) = ob (y + 1) → x = y := fun h x y hx hy e => by
  rcases Nat.lt_trichotomy x y with q | q | q
  ·have := h.inj x y q hy; omega
  ·exact q
  ·have := h.inj y x q hx; omega
 simp only [Two.pair, objAt, Value.agg.injEq, Array.mk.injEq, List.cons.injEq, Value.iface.injEq, Value.pointer.injEq, Option.some.injEq, Addr.mk.injEq, and_true] at e
 exact ⟨one h.h1 hi hi' e.1.2, one h.h2 hj hj' e.2.2⟩
structure MapIn (T : Two) (w : World) (S : Nat → Nat → Prop) (mb : Nat) (m : Value → Option Value) : Prop where
 mp : IsMapOf w mb m
 keys : ∀ x u, m x = some u → PairKey w x ∧ u = .agg #[]
 says : ∀ i j, i < T.n1 → j < T.n2 → ∀ u, m (T.pair i j) = some u → S i j
def Vis (T : Two) (w : World) (S : Nat → Nat → Prop) (mb : Nat) : Prop := ∃ m, MapIn T w S mb m
theorem MapIn.met {T : Two} {w : World} {S : Nat → Nat → Prop} {mb : Nat} {m : Value → Option Value} (h : MapIn T w S mb m) : Met w mb := ⟨⟨m, h.mp, h.keys⟩⟩
theorem MapIn.below {T : Two} {w w' : World} {S : Nat → Nat → Prop} {mb : Nat} {m : Value → Option Value} (h : MapIn T w S mb m) (hb : Below w.heap.size w w') : MapIn T w' S mb m :=
 ⟨h.mp.of_eq (hb.block mb h.mp.lt), fun x u hx => ⟨(h.keys x u hx).1.ck (CellsKept.below hb), (h.keys x u hx).2⟩, h.says⟩
theorem Vis.below {T : Two} {w w' : World} {S : Nat → Nat → Prop} {mb : Nat} (h : Vis T w S mb) (hb : Below w.heap.size w w') : Vis T w' S mb := by obtain ⟨m, h⟩ := h; exact ⟨m, h.below hb⟩
theorem Vis.mono {T : Two} {w : World} {S S' : Nat → Nat → Prop} {mb : Nat} (h : Vis T w S mb) (hs : ∀ i j, S i j → S' i j) : Vis T w S' mb := by
 obtain ⟨m, h⟩ := h; exact ⟨m, h.mp, h.keys, fun i j hi hj u hu => hs _ _ (h.says i j hi hj u hu)⟩
structure ExtV (mv : Value) (w w' : World) : Prop where
 nil : mv = .map none → Below w.heap.size w w'
 had : ∀ mb, mv = .map (some mb) → ButMap mb w w'
structure Aft (T : Two) (w0 : World) (mv : Value) (mb : Nat) (S : Nat → Nat → Prop) (w : World) : Prop where
 vis : Vis T w S mb
 but : ButMap mb w0 w
 whose : mv = .map (some mb) ∨ (mv = .map none ∧ w0.heap.size ≤ mb)
 kept : CellsKept w0 w
theorem Aft.below {T : Two} {w0 w w' : World} {mv : Value} {mb : Nat} {S : Nat → Nat → Prop} (h : Aft T w0 mv mb S w) (hb : Below w.heap.size w w') : Aft T w0 mv mb S w' :=
 ⟨h.vis.below hb, h.but.below hb, h.whose, h.kept.trans (CellsKept.below hb)⟩
theorem ButMap.trans {mb : Nat} {w w1 w2 : World} (h : ButMap mb w w1) (h' : ButMap mb w1 w2) : ButMap mb w w2 :=
 ⟨h'.os.trans h.os, h'.tape.trans h.tape, h'.output.trans h.output, Nat.le_trans h.size h'.size, fun k hk hne => (h'.block k (Nat.lt_of_lt_of_le hk h.size) hne).trans (h.block k hk hne)⟩
theorem Aft.call {T : Two} {w0 w w' : World} {mv : Value} {mb : Nat} {S S' : Nat → Nat → Prop} (h : Aft T w0 mv mb S w) (hb : ButMap mb w w') (hv : Vis T w' S' mb) : Aft T w0 mv mb S' w' := by
 obtain ⟨m, hm⟩ := h.vis
 exact ⟨hv, h.but.trans hb, h.whose, h.kept.trans (hb.cells hm.met)⟩
theorem Aft.extCall {T : Two} {w0 w w' : World} {mv : Value} {mb : Nat} {S : Nat → Nat → Prop} (h : Aft T w0 mv mb S w) (hb : ButMap mb w w') : ExtV mv w0 w' := by
 have hB := h.but.trans hb
 rcases h.whose with rfl | ⟨rfl, hl⟩
 ·exact ⟨fun e => (by cases e), fun mb' e => (by cases e; exact hB)⟩
 ·exact ⟨fun _ => ⟨hB.os, hB.tape, hB.output, hB.size, fun k hk => hB.block k hk (by omega)⟩, fun mb' e => (by cases e)⟩
theorem Aft.ext {T : Two} {w0 w : World} {mv : Value} {mb : Nat} {S : Nat → Nat → Prop} (h : Aft T w0 mv mb S w) : ExtV mv w0 w := h.extCall (ButMap.refl _ _)
def Two.Done (T : Two) (i j : Nat) : Prop := ∃ t u, RT T.f1 i t ∧ RT T.f2 j u ∧ tm t u = true
def MRes (T : Two) (mv : Value) (S : Nat → Nat → Prop) (b : Bool) (ev : Value) (w : World) (e : Ending) (w' : World) : Prop :=
 ((b = true ∧ e = .returned .nilIface ∧ ∀ mb, mv = .map (some mb) → Vis T w' (fun i j => S i j ∨ T.Done i j) mb) ∨ (b = false ∧ e = .returned ev)) ∧ ExtV mv w w'
theorem Aft.yes {T : Two} {w0 w : World} {mv : Value} {mb : Nat} {S S' : Nat → Nat → Prop} {ev : Value} (h : Aft T w0 mv mb S' w) (hs : ∀ i j, S' i j → S i j ∨ T.Done i j) : MRes T mv S true ev w0 (.returned .nilIface) w := by
 refine ⟨.inl ⟨rfl, rfl, fun mb' e => ?_⟩, h.ext⟩
 rcases h.whose with rfl | ⟨rfl, _⟩
 ·cases e; exact h.vis.mono hs
 ·cases e
theorem Aft.no {T : Two} {w0 w : World} {mv : Value} {mb : Nat} {S S' : Nat → Nat → Prop} {ev : Value} (h : Aft T w0 mv mb S' w) : MRes T mv S false ev w0 (.returned ev) w := ⟨.inr ⟨rfl, rfl⟩, h.ext⟩
theorem ExtV.same (mv : Value) (w : World) : ExtV mv w w := ⟨fun _ => Below.refl _ _, fun _ _ => ButMap.refl _ _⟩
theorem ExtV.below {mv : Value} {w w' : World} (h : Below w.heap.size w w') : ExtV mv w w' := ⟨fun _ => h, fun _ _ => (ButMap.refl _ _).below h⟩
def Ready (T : Two) (w : World) (mv : Value) (S : Nat → Nat → Prop) (x : Value) (s2 : Value) (wx : World) : Prop :=
 ∃ mb m, s2 = .map (some mb) ∧ MapIn T wx S mb m ∧ m x = none ∧ ButMap mb w wx ∧ (mv = .map (some mb) ∨ (mv = .map none ∧ w.heap.size ≤ mb)) ∧ CellsKept w wx
theorem Ready.had {T : Two} {w wx : World} {mb : Nat} {m : Value → Option Value} {S : Nat → Nat → Prop} {x : Value} (hm : MapIn T w S mb m) (hn : m x = none) (hb : Below w.heap.size w wx) : Ready T w (.map (some mb)) S x (.map (some mb)) wx :=
 ⟨mb, m, rfl, hm.below hb, hn, (ButMap.refl _ _).below hb, .inl rfl, CellsKept.below hb⟩
theorem Ready.made {T : Two} {w w1 : World} {S : Nat → Nat → Prop} {x : Value} {sz : Nat} (hz : sz = w1.heap.size) (hb : Below w.heap.size w w1) : Ready T w (.map none) S x (.map (some sz)) (w1.alloc (.map #[] 0)) := by
 subst hz
 exact ⟨w1.heap.size, fun _ => none, rfl, ⟨IsMapOf.made w1, fun _ _ h => (by cases h), fun _ _ _ _ _ h => (by cases h)⟩, rfl, (ButMap.refl _ _).below (hb.alloc hb.size _), .inr ⟨rfl, hb.size⟩, CellsKept.below (hb.alloc hb.size _)⟩
end Go.Proofs.YtfilbgmbmlmdbaaGreatDoor
namespace Go.Proofs.YtfilbgmbmlmdbaaGreatDoor
open Go.RowKit Go.MapKept
open Go.Extern.Stop Go.Stop Go.Extern in
theorem Aft.own {T : Two} {w0 w w' : World} {mv : Value} {mb sb : Nat} {S : Nat → Nat → Prop} {m : Value → Option Value} (h : Aft T w0 mv mb S w) (hg : w.grownBy w' (some sb)) (hne : sb ≠ mb) (hlo : w0.heap.size ≤ sb) (hm : IsMapOf w sb m) : Aft T w0 mv mb S w' := by
 have hc : CellsKept w w' := ⟨hg.size, fun g cs t z hx => hg.block g (Array.getElem?_eq_some_iff.1 hx).1 fun e => by
  obtain ⟨es, clock, hb, _⟩ := hm
  rw [Option.some.inj e] at hx
  rw [hb] at hx
  cases hx⟩
 obtain ⟨m', hv⟩ := h.vis
 refine ⟨⟨m', hv.mp.of_eq (hg.block mb hv.mp.lt fun e => hne (Option.some.inj e).symm), fun x u hx => ⟨(hv.keys x u hx).1.ck hc, (hv.keys x u hx).2⟩, hv.says⟩, ?_, h.whose, h.kept.trans hc⟩
 exact ⟨hg.os.trans h.but.os, hg.tape.trans h.but.tape, hg.output.trans h.but.output, Nat.le_trans h.but.size hg.size, fun k hk hx => (hg.block k (Nat.lt_of_lt_of_le hk h.but.size) fun e => by have := Option.some.inj e; omega).trans (h.but.block k hk hx)⟩
structure MemAt (w : World) (g i : Nat) (nm : ByteArray) (p : TypeId) (o : Nat) (a b : Int) : Prop where
 lt : g < w.heap.size
 c0 : w.cell? ⟨g, i * 5, none⟩ = some (.string nm)
 c1 : w.cell? ⟨g, i * 5 + 1, none⟩ = some (.iface p (.pointer (some ⟨o, 0, none⟩)))
 c2 : w.cell? ⟨g, i * 5 + 2, none⟩ = some (.int .u32 a)
 c3 : w.cell? ⟨g, i * 5 + 3, none⟩ = some (.int .u32 b)
 c4 : w.cell? ⟨g, i * 5 + 4, none⟩ = some (.slice none 0 0)
theorem MemAt.ck {w w' : World} {g i : Nat} {nm : ByteArray} {p : TypeId} {o : Nat} {a b : Int} (h : MemAt w g i nm p o a b) (hc : CellsKept w w') : MemAt w' g i nm p o a b :=
 ⟨Nat.lt_of_lt_of_le h.lt hc.size, hc.cell h.c0, hc.cell h.c1, hc.cell h.c2, hc.cell h.c3, hc.cell h.c4⟩
structure NameMap (w : World) (sb k : Nat) (mn : Nat → ByteArray) (ag : Nat → Value) : Prop where
 mp : ∃ m, IsMapOf w sb m ∧ (∀ j, j < k → m (.string (mn j)) = some (ag j)) ∧ ∀ x u, m x = some u → ∃ j, j < k ∧ x = .string (mn j)
theorem NameMap.made {w : World} {sb : Nat} {mn : Nat → ByteArray} {ag : Nat → Value} (hz : sb = w.heap.size) : NameMap (w.alloc (.map #[] 0)) sb 0 mn ag := by
 subst hz
 exact ⟨⟨fun _ => none, IsMapOf.made w, fun j h => absurd h (Nat.not_lt_zero j), fun _ _ h => by cases h⟩⟩
theorem NameMap.of_eq {w w' : World} {sb k : Nat} {mn : Nat → ByteArray} {ag : Nat → Value} (h : NameMap w sb k mn ag) (e : w'.heap[sb]? = w.heap[sb]?) : NameMap w' sb k mn ag := by
 obtain ⟨m, h1, h2⟩ := h.mp; exact ⟨⟨m, h1.of_eq e, h2⟩⟩
theorem NameMap.push {w' : World} {sb k : Nat} {mn : Nat → ByteArray} {ag : Nat → Value} {mm : Value → Option Value} (hat : ∀ j, j < k → mm (.string (mn j)) = some (ag j)) (hall : ∀ x u, mm x = some u → ∃ j, j < k ∧ x = .string (mn j)) (hd : ∀ j, j < k → mn j ≠ mn k)
  (hm : ∀ m' : Value → Option Value, m' (.string (mn k)) = some (ag k) → (∀ y, y ≠ .string (mn k) → m' y = mm y) → IsMapOf w' sb m') : NameMap w' sb (k + 1) mn ag := by
 refine ⟨⟨moreKey mm (.string (mn k)) (ag k), hm _ (moreKey_at _ _ _) (moreKey_ne _ _ _), fun j hj => ?_, fun x u hx => ?_⟩⟩
 ·by_cases h : j = k
  ·rw [h]; exact moreKey_at _ _ _
  ·rw [moreKey_ne _ _ _ _ (fun e => by simp only [Value.string.injEq] at e; exact hd j (by omega) e)]
   exact hat j (by omega)
 ·by_cases h : x = .string (mn k)
  ·exact ⟨k, Nat.lt_succ_self _, h⟩
  ·rw [moreKey_ne _ _ _ _ h] at hx
   obtain ⟨j, hj, e⟩ := hall x u hx
   exact ⟨j, by omega, e⟩
theorem NameMap.lt {w : World} {sb k : Nat} {mn : Nat → ByteArray} {ag : Nat → Value} (h : NameMap w sb k mn ag) : sb < w.heap.size := by obtain ⟨m, h1, _⟩ := h.mp; exact h1.lt
section
variable {T : Two} {w : World} {x y : Value} {b c i j : Nat} {mv : Value} {S : Nat → Nat → Prop} {a : Addr}
end
end Go.Proofs.YtfilbgmbmlmdbaaGreatDoor
