/- Maps whose keys are integers: laws of the look-up and of the store at a new key, in terms of what the map tells. Nothing is claimed here. -/
import Derived.Test.YtfilbgmbmlmdbaaMapl
namespace Go.Proofs.Ytfilbgmbmlmdbaa
open Go.RowKit Go.MapKept

section
variable {P : Program} {k e t : TypeId} {w : World} {b : Nat} {m : Value → Option Value} {q : IntKind}

/-- Keys that are integers of one kind. -/
def IntKey (q : IntKind) (x : Value) : Prop := ∃ z, x = .int q z

theorem findNow_ints {z : Int} : ∀ (l : List MapEntry) (i : Nat), (∀ y ∈ l, IntKey q y.key) →
    (Instr.findNow (.int q) (.int q z) l i = some none ∧ ∀ y ∈ l, y.key ≠ .int q z) ∨ ∃ j y, Instr.findNow (.int q) (.int q z) l i = some (some (i + j, y.val)) ∧ l[j]? = some y ∧ y.key = .int q z
  | [], _, _ => .inl ⟨rfl, by simp⟩
  | y :: es, i, h => by
    obtain ⟨z', hz'⟩ := h y (.head _)
    by_cases hz : z = z'
    · subst hz
      exact .inr ⟨0, y, by simp [Instr.findNow, Instr.sameNow, hz'], rfl, hz'⟩
    · have hb : (z == z') = false := by simp [hz]
      have hne : y.key ≠ .int q z := by rw [hz']; intro e; simp only [Value.int.injEq, true_and] at e; exact hz e.symm
      rcases findNow_ints (z := z) es (i + 1) (fun z hz => h z (.tail _ hz)) with ⟨h1, h2⟩ | ⟨j, u, h1, h2, h3⟩
      · exact .inl ⟨by simp [Instr.findNow, Instr.sameNow, hz', hb, h1], fun u hu => by
          cases hu with
          | head => exact hne
          | tail _ hu => exact h2 u hu⟩
      · exact .inr ⟨j + 1, u, by simp [Instr.findNow, Instr.sameNow, hz', hb, h1]; omega, by simpa using h2, h3⟩

theorem findKey_ints (hk : P.underlying k = some (.int q)) {x : Value} (hx : IntKey q x) (l : List MapEntry) (h : ∀ y ∈ l, IntKey q y.key) :
    ((Instr.findKey k x l).run P w = .ok none w ∧ ∀ y ∈ l, y.key ≠ x) ∨ ∃ j y, (Instr.findKey k x l).run P w = .ok (some (j, y.val)) w ∧ l[j]? = some y ∧ y.key = x := by
  obtain ⟨z, rfl⟩ := hx
  rcases findNow_ints (z := z) l 0 h with ⟨h1, h2⟩ | ⟨j, y, h1, h2⟩
  · exact .inl ⟨by simp [Instr.findKey, run_underlying hk, h1, Result.andThen], h2⟩
  · exact .inr ⟨j, y, by simp [Instr.findKey, run_underlying hk, h1, Result.andThen], h2⟩
theorem check_ints (hk : P.underlying k = some (.int q)) {x : Value} (em : Bool) : (Instr.checkKey em 10000 k x).run P w = .ok () w := by
  have h : ∀ n : Nat, (Instr.checkKey em (n + 1) k x).run P w = .ok () w := fun n => by
    simp [Instr.checkKey, run_underlying hk, Result.andThen]
  exact h 9999

theorem IsMapOf.lookI (h : IsMapOf w b m) (hk : P.underlying k = some (.int q)) (hG : ∀ x v, m x = some v → IntKey q x) (ht : P.underlying t = some (.map k e)) {z : Value} (hz : (zeroValue e).run P w = .ok z w) {x : Value} (hx : IntKey q x) :
    (Instr.lookup t (.map (some b)) x true).run P w = .ok (.tuple #[(m x).getD z, .bool (m x).isSome]) w := by
  obtain ⟨es, clock, hb, h1, h2⟩ := h
  have hkk : ∀ y ∈ es.toList, IntKey q y.key := fun y hy => hG _ _ (h1 y hy)
  rcases findKey_ints (w := w) hk hx es.toList hkk with ⟨hf, hn⟩ | ⟨j, y, hf, hj, hy⟩
  · have hm : m x = none := by
      cases hm : m x with
      | none => rfl
      | some v => obtain ⟨y, hy, hyx⟩ := h2 x v hm; exact absurd hyx (hn y hy)
    simp [Instr.lookup, run_underlying ht, MapKept.run_getObj_map hb, check_ints hk, hf, hz, hm, Result.andThen]
  · have hmem : y ∈ es.toList := List.mem_of_getElem? hj
    have hm : m x = some y.val := by rw [← hy]; exact h1 y hmem
    simp [Instr.lookup, run_underlying ht, MapKept.run_getObj_map hb, check_ints hk, hf, hm, Result.andThen]

theorem IsMapOf.storeI (h : IsMapOf w b m) (hk : P.underlying k = some (.int q)) (hG : ∀ x v, m x = some v → IntKey q x) (ht : P.underlying t = some (.map k e)) {x v : Value} (hx : IntKey q x) (hn : m x = none) :
    ∃ w', (Instr.mapUpdate t (.map (some b)) x v).run P w = .ok () w' ∧ w.grownBy w' (some b) ∧ w'.heap.size = w.heap.size ∧ ∀ m' : Value → Option Value, m' x = some v → (∀ y, y ≠ x → m' y = m y) → IsMapOf w' b m' := by
  obtain ⟨es, clock, hb, h1, h2⟩ := h
  have hkk : ∀ y ∈ es.toList, IntKey q y.key := fun y hy => hG _ _ (h1 y hy)
  rcases findKey_ints (w := w) hk hx es.toList hkk with ⟨hf, hne⟩ | ⟨j, y, hf, hj, hy⟩
  · refine ⟨ChangeMaps.setBlock w b (.map (es.push { key := x, val := v, born := clock }) (clock + 1)), ?_, ?_, ?_, fun m' hm1 hm2 => ⟨_, _, ChangeMaps.heap_setBlock_same hb _, ?_, ?_⟩⟩
    · simp [Instr.mapUpdate, run_underlying ht, MapKept.run_getObj_map hb, check_ints hk, hf, MapKept.run_setObj_map _ hb, Result.andThen, ChangeMaps.setBlock]
    · exact ⟨rfl, rfl, rfl, by simp [ChangeMaps.setBlock], fun i _ hi => ChangeMaps.heap_setBlock_other hb _ (fun e => hi (by rw [e]))⟩
    · simp [ChangeMaps.setBlock]
    · intro y hy
      simp only [Array.toList_push, List.mem_append, List.mem_singleton] at hy
      rcases hy with hy | rfl
      · rw [hm2 _ (hne y hy)]; exact h1 y hy
      · exact hm1
    · intro y u hu
      by_cases hyx : y = x
      · exact ⟨{ key := x, val := v, born := clock }, by simp, hyx.symm⟩
      · rw [hm2 y hyx] at hu
        obtain ⟨y', hy', he⟩ := h2 y u hu
        exact ⟨y', by simp only [Array.toList_push, List.mem_append]; exact .inl hy', he⟩
  · have hmem : y ∈ es.toList := List.mem_of_getElem? hj
    have hm : m x = some y.val := by rw [← hy]; exact h1 y hmem
    rw [hn] at hm; cases hm

theorem wpList_lookI {ops : Array Oper} {rest : List Oper} {o : Oper} {a : Act} {Q : Exit → Act → World → Prop} (hg : o.guard = none) (mo xo : Operand) (hop : o.op = Op.lookup t mo xo true)
    (ht : P.underlying t = some (.map k e)) {z : Value} (hz : (zeroValue e).run P w = .ok z w) (hk : P.underlying k = some (.int q)) (hm : a.eval mo = .map (some b)) (h : IsMapOf w b m) (hG : ∀ x v, m x = some v → IntKey q x)
    (x : Value) (hx : a.eval xo = x) (hgx : IntKey q x) (r : Option Value) (hr : m x = r) (hK : wpList P ops Q rest (a.put o.dst (.tuple #[r.getD z, .bool r.isSome])) w) : wpList P ops Q (o :: rest) a w := by
  subst hr
  refine wpList_plain hg fun K' hK' => ?_
  have hrun := h.lookI hk hG ht hz hgx
  unfold Oper.wp
  simp [execOp, hop, hm, hx, hrun, Result.andThen]
  exact hK' _ _ hK
theorem wpList_storeI {ops : Array Oper} {rest : List Oper} {o : Oper} {a : Act} {Q : Exit → Act → World → Prop} (hg : o.guard = none) (mo xo vo : Operand) (hop : o.op = Op.mapUpdate t mo xo vo)
    (ht : P.underlying t = some (.map k e)) (hk : P.underlying k = some (.int q)) (hm : a.eval mo = .map (some b)) (h : IsMapOf w b m) (hG : ∀ x v, m x = some v → IntKey q x)
    (x v : Value) (hx : a.eval xo = x) (hv : a.eval vo = v) (hgx : IntKey q x) (hn : m x = none)
    (hK : ∀ w', w.grownBy w' (some b) → w'.heap.size = w.heap.size → (∀ m' : Value → Option Value, m' x = some v → (∀ y, y ≠ x → m' y = m y) → IsMapOf w' b m') → wpList P ops Q rest (a.put o.dst undef) w') : wpList P ops Q (o :: rest) a w := by
  refine wpList_plain hg fun K' hK' => ?_
  obtain ⟨w', hrun, r1, r2, r3⟩ := h.storeI (v := v) hk hG ht hgx hn
  unfold Oper.wp
  simp [execOp, hop, hm, hx, hv, hrun, Result.andThen]
  exact hK' _ _ (hK w' r1 r2 r3)
end
#print axioms wpList_lookI
#print axioms wpList_storeI
end Go.Proofs.Ytfilbgmbmlmdbaa
