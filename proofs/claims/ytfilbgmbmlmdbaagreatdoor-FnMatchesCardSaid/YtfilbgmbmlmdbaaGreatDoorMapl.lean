/- Maps whose keys lead to memory (pointers, interfaces that hold pointers): laws of the look-up and of the store at a new key. Nothing is claimed here. -/
import Derived.WalkKit
import Derived.Handy
import Derived.OwnWalk
import Derived.LaidEqlPtr
import Derived.Maps.OwnSet
namespace Go.Proofs.YtfilbgmbmlmdbaaGreatDoor
open Go.RowKit Go.MapKept

/-- Keys that a world tells apart. -/
structure KeyIn (P : Program) (k : TypeId) (w : World) (G : Value → Prop) : Prop where
  check : ∀ em v, G v → (Instr.checkKey em 10000 k v).run P w = .ok () w
  late : ∃ d, P.underlying k = some d ∧ ∀ x e es, G x → Instr.findNow d x (e :: es) 0 = none
  same : ∀ x y, G x → G y → ∃ r, (Op.equal k x y).run P w = .ok r w ∧ (r = true ↔ y = x)
  stays : ∀ x, G x → Instr.sameBits 10000 x x = true

/-- Block b is a map that holds what m tells. -/
def IsMapOf (w : World) (b : Nat) (m : Value → Option Value) : Prop :=
  ∃ es clock, w.heap[b]? = some (.map es clock) ∧ (∀ e ∈ es.toList, m e.key = some e.val) ∧ ∀ x v, m x = some v → ∃ e ∈ es.toList, e.key = x

theorem IsMapOf.lt {w : World} {b : Nat} {m : Value → Option Value} (h : IsMapOf w b m) : b < w.heap.size := by
  obtain ⟨es, clock, hb, _⟩ := h; exact (Array.getElem?_eq_some_iff.1 hb).1
theorem IsMapOf.of_eq {w w' : World} {b : Nat} {m : Value → Option Value} (h : IsMapOf w b m) (e : w'.heap[b]? = w.heap[b]?) : IsMapOf w' b m := by
  obtain ⟨es, clock, hb, r⟩ := h; exact ⟨es, clock, e.trans hb, r⟩
theorem IsMapOf.made (w : World) : IsMapOf (w.alloc (.map #[] 0)) w.heap.size (fun _ => none) :=
  ⟨#[], 0, (MapKept.heap_alloc w _).1, by simp, by simp⟩
theorem IsMapOf.alloc {w : World} {b : Nat} {m : Value → Option Value} (h : IsMapOf w b m) (o : Obj) : IsMapOf (w.alloc o) b m := h.of_eq ((MapKept.heap_alloc w o).2 b h.lt)
theorem IsMapOf.grown {w w' : World} {b : Nat} {m : Value → Option Value} {row : Option Nat} (h : IsMapOf w b m) (hg : w.grownBy w' row) (hr : some b ≠ row) : IsMapOf w' b m := h.of_eq (hg.block b h.lt hr)
theorem IsMapOf.set {w : World} {b : Nat} {m : Value → Option Value} (h : IsMapOf w b m) {p : Addr} (hp : b ≠ p.block) (u : Value) : IsMapOf (w.setCell p u) b m := h.of_eq (Below.heap_setCell w p u b hp)

section
variable {P : Program} {k e t : TypeId} {w : World} {G : Value → Prop} {b : Nat} {m : Value → Option Value}

theorem findAsking_keys (K : KeyIn P k w G) {x : Value} (hx : G x) : ∀ (l : List MapEntry) (i : Nat), (∀ y ∈ l, G y.key) →
    ((Instr.findAsking k x l i).run P w = .ok none w ∧ ∀ y ∈ l, y.key ≠ x) ∨ ∃ j y, (Instr.findAsking k x l i).run P w = .ok (some (i + j, y.val)) w ∧ l[j]? = some y ∧ y.key = x
  | [], _, _ => .inl ⟨rfl, by simp⟩
  | y :: es, i, h => by
    obtain ⟨r, hr, hiff⟩ := K.same x y.key hx (h y (.head _))
    cases r with
    | true => exact .inr ⟨0, y, by simp [Instr.findAsking, hr, Result.andThen], rfl, hiff.1 rfl⟩
    | false =>
      have hne : y.key ≠ x := fun q => by have := hiff.2 q; cases this
      rcases findAsking_keys K hx es (i + 1) (fun z hz => h z (.tail _ hz)) with ⟨h1, h2⟩ | ⟨j, z, h1, h2, h3⟩
      · exact .inl ⟨by simp [Instr.findAsking, hr, Result.andThen, h1], fun z hz => by
          cases hz with
          | head => exact hne
          | tail _ hz => exact h2 z hz⟩
      · exact .inr ⟨j + 1, z, by simp [Instr.findAsking, hr, Result.andThen, h1]; omega, by simpa using h2, h3⟩

theorem findKey_keys (K : KeyIn P k w G) {x : Value} (hx : G x) (l : List MapEntry) (h : ∀ y ∈ l, G y.key) :
    ((Instr.findKey k x l).run P w = .ok none w ∧ ∀ y ∈ l, y.key ≠ x) ∨ ∃ j y, (Instr.findKey k x l).run P w = .ok (some (j, y.val)) w ∧ l[j]? = some y ∧ y.key = x := by
  obtain ⟨d, hd, hl⟩ := K.late
  cases l with
  | nil => exact .inl ⟨by simp [Instr.findKey, run_underlying hd, Instr.findNow, Result.andThen], by simp⟩
  | cons y es =>
    have e0 : (Instr.findKey k x (y :: es)).run P w = (Instr.findAsking k x (y :: es) 0).run P w := by
      simp [Instr.findKey, run_underlying hd, hl x y es hx, Result.andThen]
    rw [e0]
    rcases findAsking_keys K hx (y :: es) 0 h with h1 | ⟨j, z, h1, h2⟩
    · exact .inl h1
    · exact .inr ⟨j, z, by simpa using h1, h2⟩

theorem IsMapOf.look (h : IsMapOf w b m) (K : KeyIn P k w G) (hG : ∀ x v, m x = some v → G x) (ht : P.underlying t = some (.map k e)) {z : Value} (hz : (zeroValue e).run P w = .ok z w) {x : Value} (hx : G x) :
    (Instr.lookup t (.map (some b)) x true).run P w = .ok (.tuple #[(m x).getD z, .bool (m x).isSome]) w := by
  obtain ⟨es, clock, hb, h1, h2⟩ := h
  have hk : ∀ y ∈ es.toList, G y.key := fun y hy => hG _ _ (h1 y hy)
  rcases findKey_keys K hx es.toList hk with ⟨hf, hn⟩ | ⟨j, y, hf, hj, hy⟩
  · have hm : m x = none := by
      cases hm : m x with
      | none => rfl
      | some v => obtain ⟨y, hy, hyx⟩ := h2 x v hm; exact absurd hyx (hn y hy)
    simp [Instr.lookup, run_underlying ht, MapKept.run_getObj_map hb, K.check _ _ hx, hf, hz, hm, Result.andThen]
  · have hmem : y ∈ es.toList := List.mem_of_getElem? hj
    have hm : m x = some y.val := by rw [← hy]; exact h1 y hmem
    simp [Instr.lookup, run_underlying ht, MapKept.run_getObj_map hb, K.check _ _ hx, hf, hm, Result.andThen]

theorem IsMapOf.store (h : IsMapOf w b m) (K : KeyIn P k w G) (hG : ∀ x v, m x = some v → G x) (ht : P.underlying t = some (.map k e)) {x v : Value} (hx : G x) (hn : m x = none) :
    ∃ w', (Instr.mapUpdate t (.map (some b)) x v).run P w = .ok () w' ∧ w.grownBy w' (some b) ∧ w'.heap.size = w.heap.size ∧ ∀ m' : Value → Option Value, m' x = some v → (∀ y, y ≠ x → m' y = m y) → IsMapOf w' b m' := by
  obtain ⟨es, clock, hb, h1, h2⟩ := h
  have hk : ∀ y ∈ es.toList, G y.key := fun y hy => hG _ _ (h1 y hy)
  rcases findKey_keys K hx es.toList hk with ⟨hf, hne⟩ | ⟨j, y, hf, hj, hy⟩
  · refine ⟨ChangeMaps.setBlock w b (.map (es.push { key := x, val := v, born := clock }) (clock + 1)), ?_, ?_, ?_, fun m' hm1 hm2 => ⟨_, _, ChangeMaps.heap_setBlock_same hb _, ?_, ?_⟩⟩
    · simp [Instr.mapUpdate, run_underlying ht, MapKept.run_getObj_map hb, K.check _ _ hx, hf, MapKept.run_setObj_map _ hb, Result.andThen, ChangeMaps.setBlock]
    · exact ⟨rfl, rfl, rfl, by simp [ChangeMaps.setBlock], fun i _ hi => ChangeMaps.heap_setBlock_other hb _ (fun e => hi (by rw [e]))⟩
    · simp [ChangeMaps.setBlock]
    · intro y hy
      simp only [Array.toList_push, List.mem_append, List.mem_singleton] at hy
      rcases hy with hy | rfl
      · rw [hm2 _ (hne y hy)]; exact h1 y hy
      · exact hm1
    · intro y u hu
      by_cases hyx : y = x
      · exact ⟨{ key := x, val := v, born := clock }, by simp, hyx.symm⟩
      · rw [hm2 y hyx] at hu
        obtain ⟨y', hy', he⟩ := h2 y u hu
        exact ⟨y', by simp only [Array.toList_push, List.mem_append]; exact .inl hy', he⟩
  · have hmem : y ∈ es.toList := List.mem_of_getElem? hj
    have hm : m x = some y.val := by rw [← hy]; exact h1 y hmem
    rw [hn] at hm; cases hm

theorem wpList_look {ops : Array Oper} {rest : List Oper} {o : Oper} {a : Act} {Q : Exit → Act → World → Prop} (hg : o.guard = none) (mo xo : Operand) (hop : o.op = Op.lookup t mo xo true)
    (ht : P.underlying t = some (.map k e)) {z : Value} (hz : (zeroValue e).run P w = .ok z w) (K : KeyIn P k w G) (hm : a.eval mo = .map (some b)) (h : IsMapOf w b m) (hG : ∀ x v, m x = some v → G x)
    (x : Value) (hx : a.eval xo = x) (hgx : G x) (r : Option Value) (hr : m x = r) (hK : wpList P ops Q rest (a.put o.dst (.tuple #[r.getD z, .bool r.isSome])) w) : wpList P ops Q (o :: rest) a w := by
  subst hr
  refine wpList_plain hg fun K' hK' => ?_
  have hrun := h.look K hG ht hz hgx
  unfold Oper.wp
  simp [execOp, hop, hm, hx, hrun, Result.andThen]
  exact hK' _ _ hK
theorem wpList_store {ops : Array Oper} {rest : List Oper} {o : Oper} {a : Act} {Q : Exit → Act → World → Prop} (hg : o.guard = none) (mo xo vo : Operand) (hop : o.op = Op.mapUpdate t mo xo vo)
    (ht : P.underlying t = some (.map k e)) (K : KeyIn P k w G) (hm : a.eval mo = .map (some b)) (h : IsMapOf w b m) (hG : ∀ x v, m x = some v → G x)
    (x v : Value) (hx : a.eval xo = x) (hv : a.eval vo = v) (hgx : G x) (hn : m x = none)
    (hK : ∀ w', w.grownBy w' (some b) → w'.heap.size = w.heap.size → (∀ m' : Value → Option Value, m' x = some v → (∀ y, y ≠ x → m' y = m y) → IsMapOf w' b m') → wpList P ops Q rest (a.put o.dst undef) w') : wpList P ops Q (o :: rest) a w := by
  refine wpList_plain hg fun K' hK' => ?_
  obtain ⟨w', hrun, r1, r2, r3⟩ := h.store (v := v) K hG ht hgx hn
  unfold Oper.wp
  simp [execOp, hop, hm, hx, hv, hrun, Result.andThen]
  exact hK' _ _ (hK w' r1 r2 r3)

/-- Pointers to what has cells. -/
def PtrKey (w : World) (x : Value) : Prop := ∃ c cs ty, x = .pointer (some ⟨c, 0, none⟩) ∧ w.heap[c]? = some (.cells cs ty (0, 0))
theorem ptr_keys {te : TypeId} {j : TypeInfo} (w : World) (hp : P.underlying k = some (.pointer te)) (hte : P.info? te = some j) (hsz : j.size ≠ 0) : KeyIn P k w (PtrKey w) where
  check em v := by
    rintro ⟨c, cs, ty, rfl, _⟩
    have h : ∀ n : Nat, (Instr.checkKey em (n + 1) k (.pointer (some ⟨c, 0, none⟩))).run P w = .ok () w := fun n => by
      simp [Instr.checkKey, run_underlying hp, Result.andThen]
    exact h 9999
  late := ⟨_, hp, by rintro x y es ⟨c, cs, ty, rfl, _⟩; simp [Instr.findNow, Instr.sameNow]⟩
  same := by
    rintro x y ⟨c, cs, ty, rfl, h1⟩ ⟨c', cs', ty', rfl, h2⟩
    by_cases hc : c = c'
    · subst hc
      have h : ∀ d : Nat, (Op.equalIn (d + 1) k (.pointer (some ⟨c, 0, none⟩)) (.pointer (some ⟨c, 0, none⟩))).run P w = .ok true w := fun d => by
        simp [Op.equalIn, run_underlying hp, sizeOf, typeInfo, hte, run_sameAddr_same]
      exact ⟨true, h 9999, by simp⟩
    · have h : ∀ d : Nat, (Op.equalIn (d + 1) k (.pointer (some ⟨c, 0, none⟩)) (.pointer (some ⟨c', 0, none⟩))).run P w = .ok false w := fun d => by
        simp [Op.equalIn, run_underlying hp, sizeOf, typeInfo, hte, hsz, run_sameAddr_other w (a := ⟨c, 0, none⟩) (b := ⟨c', 0, none⟩) (by simp) h1 h2]
      exact ⟨false, h 9999, by simp⟩
  stays := by
    rintro x ⟨c, cs, ty, rfl, _⟩
    have h : ∀ n : Nat, Instr.sameBits n (.pointer (some ⟨c, 0, none⟩)) (.pointer (some ⟨c, 0, none⟩)) = true := fun n => by simp [Instr.sameBits]
    exact h 10000
/-- Interfaces that hold pointers to what has cells. -/
def IfaceKey (P : Program) (w : World) (x : Value) : Prop := ∃ tp te i j c cs ty, x = .iface tp (.pointer (some ⟨c, 0, none⟩)) ∧ w.heap[c]? = some (.cells cs ty (0, 0)) ∧
  P.underlying tp = some (.pointer te) ∧ P.info? tp = some i ∧ i.comparable = true ∧ P.info? te = some j ∧ j.size ≠ 0
theorem iface_same {ms : Array (String × TypeId)} {w : World} (hp : P.underlying k = some (.interface ms)) {x y : Value} (hx : IfaceKey P w x) (hy : IfaceKey P w y) : ∃ r, (Op.equal k x y).run P w = .ok r w ∧ (r = true ↔ y = x) := by
  obtain ⟨tp, te, i, j, c, cs, ty, rfl, h1, hu, hi, hc, hj, hs⟩ := hx
  obtain ⟨tp', te', i', j', c', cs', ty', rfl, h2, hu', hi', hc', hj', hs'⟩ := hy
  by_cases ht : tp = tp'
  · subst ht
    rw [hu] at hu'; cases hu'
    by_cases hcc : c = c'
    · subst hcc
      exact ⟨true, run_equalIn_iface_ptr_same w 9998 _ hp hu hi hc hj, by simp⟩
    · exact ⟨false, run_equalIn_iface_ptr_other w 9998 hp hu hi hc hj hs (by simp) h1 h2, by simp⟩
  · have h : ∀ d : Nat, (Op.equalIn (d + 1) k (.iface tp (.pointer (some ⟨c, 0, none⟩))) (.iface tp' (.pointer (some ⟨c', 0, none⟩)))).run P w = .ok false w := fun d => by
      simp [Op.equalIn, run_underlying hp, ht]
    exact ⟨false, h 9999, by simp; intro h; exact absurd h.symm ht⟩
theorem iface_keys {ms : Array (String × TypeId)} (w : World) (hp : P.underlying k = some (.interface ms)) : KeyIn P k w (IfaceKey P w) where
  check em v := by
    rintro ⟨tp, te, i, j, c, cs, ty, rfl, _, hu, hi, hc, _⟩
    have h : ∀ n : Nat, (Instr.checkKey em (n + 2) k (.iface tp (.pointer (some ⟨c, 0, none⟩)))).run P w = .ok () w := fun n => by
      simp [Instr.checkKey, run_underlying hp, run_underlying hu, typeInfo, hi, hc]
    exact h 9998
  late := ⟨_, hp, by rintro x y es ⟨tp, te, i, j, c, cs, ty, rfl, _⟩; simp [Instr.findNow, Instr.sameNow]⟩
  same := fun x y hx hy => iface_same hp hx hy
  stays := by
    rintro x ⟨tp, te, i, j, c, cs, ty, rfl, _⟩
    have h : ∀ n : Nat, Instr.sameBits (n + 1) (.iface tp (.pointer (some ⟨c, 0, none⟩))) (.iface tp (.pointer (some ⟨c, 0, none⟩))) = true := fun n => by simp [Instr.sameBits]
    exact h 9999
end
#print axioms wpList_store
#print axioms iface_keys
end Go.Proofs.YtfilbgmbmlmdbaaGreatDoor
