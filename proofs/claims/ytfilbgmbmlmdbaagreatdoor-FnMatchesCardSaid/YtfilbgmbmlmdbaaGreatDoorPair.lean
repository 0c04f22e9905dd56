/- Maps whose keys are pairs of interfaces that hold pointers; a look-up in a map that is nil. Nothing is claimed here. -/
import Derived.Test.YtfilbgmbmlmdbaaGreatDoorMapl
import Derived.Test.YtfilbgmbmlmdbaaGreatDoorBase
import Derived.Laws.StructEq
namespace Go.Proofs.YtfilbgmbmlmdbaaGreatDoor
open Go.RowKit Go.MapKept

/-- Pairs of interfaces that hold pointers to what has cells. -/
def PairKey (w : World) (x : Value) : Prop := ∃ a b, x = .agg #[a, b] ∧ IfaceKey Tryz.prog w a ∧ IfaceKey Tryz.prog w b
theorem iface_sameAt {P : Program} {k : TypeId} {ms : Array (String × TypeId)} {w : World} (hp : P.underlying k = some (.interface ms)) {x y : Value} (hx : IfaceKey P w x) (hy : IfaceKey P w y) (d : Nat) : ∃ r, (Op.equalIn (d + 2) k x y).run P w = .ok r w ∧ (r = true ↔ y = x) := by
  obtain ⟨tp, te, i, j, c, cs, ty, rfl, h1, hu, hi, hc, hj, hs⟩ := hx
  obtain ⟨tp', te', i', j', c', cs', ty', rfl, h2, hu', hi', hc', hj', hs'⟩ := hy
  by_cases ht : tp = tp'
  · subst ht
    rw [hu] at hu'; cases hu'
    by_cases hcc : c = c'
    · subst hcc
      exact ⟨true, run_equalIn_iface_ptr_same w d _ hp hu hi hc hj, by simp⟩
    · exact ⟨false, run_equalIn_iface_ptr_other w d hp hu hi hc hj hs (by simp) h1 h2, by simp⟩
  · have h : ∀ d : Nat, (Op.equalIn (d + 1) k (.iface tp (.pointer (some ⟨c, 0, none⟩))) (.iface tp' (.pointer (some ⟨c', 0, none⟩)))).run P w = .ok false w := fun d => by
      simp [Op.equalIn, run_underlying hp, ht]
    exact ⟨false, h (d + 1), by simp; intro h; exact absurd h.symm ht⟩
theorem iface_check {P : Program} {k : TypeId} {ms : Array (String × TypeId)} {w : World} (hp : P.underlying k = some (.interface ms)) {x : Value} (hx : IfaceKey P w x) (em : Bool) (n : Nat) : (Instr.checkKey em (n + 2) k x).run P w = .ok () w := by
  obtain ⟨tp, te, i, j, c, cs, ty, rfl, _, hu, hi, hc, _⟩ := hx
  simp [Instr.checkKey, run_underlying hp, run_underlying hu, typeInfo, hi, hc]
theorem part_iface (w : World) (cs : Array Value) (j : Nat) (v : Value) (h : cs[j]? = some v) : (part 77 cs j).run Tryz.prog w = .ok v w := by
  simp [part, isAgg, h]
theorem pair_keys (w : World) : KeyIn Tryz.prog 161 w (PairKey w) where
  check em v := by
    rintro ⟨a, b, rfl, ha, hb⟩
    have h : ∀ n : Nat, (Instr.checkKey em (n + 3) 161 (.agg #[a, b])).run Tryz.prog w = .ok () w := fun n => by
      have h1 := iface_check Tryz.underlying77 ha em n
      have h2 := iface_check Tryz.underlying77 hb em n
      have p1 := part_iface w #[a, b] 0 a rfl
      have p2 := part_iface w #[a, b] 1 b rfl
      rw [Instr.checkKey]
      simp [run_underlying Tryz.underlying161, p1, p2, h1, h2]
    exact h 9997
  late := ⟨_, Tryz.underlying161, by rintro x y es ⟨a, b, rfl, _⟩; simp [Instr.findNow, Instr.sameNow]⟩
  same := by
    rintro x y ⟨a, b, rfl, ha, hb⟩ ⟨a', b', rfl, ha', hb'⟩
    obtain ⟨r1, h1, i1⟩ := iface_sameAt Tryz.underlying77 ha ha' 9997
    obtain ⟨r2, h2, i2⟩ := iface_sameAt Tryz.underlying77 hb hb' 9997
    have pa := part_iface w #[a, b] 0 a rfl
    have pb := part_iface w #[a, b] 1 b rfl
    have pa' := part_iface w #[a', b'] 0 a' rfl
    have pb' := part_iface w #[a', b'] 1 b' rfl
    have hf : Tryz.prog.fieldsOf 161 = #[{ name := "A", type := 77, offset := 0, embedded := false, tag := "", pkgPath := "", byteOffset := 0 }, { name := "B", type := 77, offset := 1, embedded := false, tag := "", pkgPath := "", byteOffset := 16 }] := by
      simp [Program.fieldsOf, Tryz.underlying161]
    have he := run_equalIn_struct (P := Tryz.prog) w 9999 161 #[a, b] #[a', b'] (by rw [hf]; exact Tryz.underlying161) (by kernel_rfl)
    rw [hf] at he
    have he2 : (Op.equal 161 (.agg #[a, b]) (.agg #[a', b'])).run Tryz.prog w = (Op.eqFields 9999 #[a, b] #[a', b'] [{ name := "A", type := 77, offset := 0, embedded := false, tag := "", pkgPath := "", byteOffset := 0 }, { name := "B", type := 77, offset := 1, embedded := false, tag := "", pkgPath := "", byteOffset := 16 }]).run Tryz.prog w := he
    rw [he2]
    cases r1 with
    | false =>
      refine ⟨false, by simp [Op.eqFields, pa, pa', h1], ?_⟩
      have : ¬ a' = a := fun e => by have := i1.2 e; cases this
      simp [this]
    | true =>
      have e1 := i1.1 rfl
      subst e1
      refine ⟨r2, by cases r2 <;> simp [Op.eqFields, pa, pb, pa', pb', h1, h2], ?_⟩
      rw [i2]
      simp
  stays := by
    rintro x ⟨a, b, rfl, ha, hb⟩
    have h : ∀ x, IfaceKey Tryz.prog w x → ∀ n : Nat, Instr.sameBits (n + 1) x x = true := by
      rintro x ⟨tp, te, i, j, c, cs, ty, rfl, _⟩ n
      simp [Instr.sameBits]
    have h2 : ∀ n : Nat, Instr.sameBits (n + 2) (.agg #[a, b]) (.agg #[a, b]) = true := fun n => by
      simp [Instr.sameBits, h a ha n, h b hb n]
    exact h2 9998
section
variable {P : Program} {k e t : TypeId} {w : World} {G : Value → Prop}
theorem wpList_look_nil {ops : Array Oper} {rest : List Oper} {o : Oper} {a : Act} {Q : Exit → Act → World → Prop} (hg : o.guard = none) (mo xo : Operand) (hop : o.op = Op.lookup t mo xo true)
    (ht : P.underlying t = some (.map k e)) {z : Value} (hz : (zeroValue e).run P w = .ok z w) (K : KeyIn P k w G) (hm : a.eval mo = .map none)
    (x : Value) (hx : a.eval xo = x) (hgx : G x) (hK : wpList P ops Q rest (a.put o.dst (.tuple #[z, .bool false])) w) : wpList P ops Q (o :: rest) a w := by
  refine wpList_plain hg fun K' hK' => ?_
  obtain ⟨d, hd, hl⟩ := K.late
  have hrun : (Instr.lookup t (.map none) x true).run P w = .ok (.tuple #[z, .bool false]) w := by
    have hf : (Instr.findKey k x []).run P w = .ok none w := by simp [Instr.findKey, run_underlying hd, Instr.findNow, Result.andThen]
    simp [Instr.lookup, run_underlying ht, K.check _ _ hgx, hf, hz, Result.andThen]
  unfold Oper.wp
  simp [execOp, hop, hm, hx, hrun, Result.andThen]
  exact hK' _ _ hK
end
#print axioms pair_keys
#print axioms wpList_look_nil
end Go.Proofs.YtfilbgmbmlmdbaaGreatDoor
