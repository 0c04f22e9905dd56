/- The thin package's own filling in of parts, of each kind of type. -/
import Derived.Test.YtfilbgmbmlmdbaaGreatDoorImplC
namespace Go.Proofs.YtfilbgmbmlmdbaaGreatDoor
open Go.RowKit

/-- Row j of an enumeration's values. -/
def ERows (ys xs : List Value) (k : Nat) : Prop := ∀ j, j < k → ∃ (nm : ByteArray) (o : Value) (a b v : Int), PRow ys j nm o a b v ∧ xs[2 * j]? = some (.string nm) ∧ xs[2 * j + 1]? = some (.int .u64 (IntKind.u64.wrap v))
/-- What a type of the package is made of, its parts among it. -/
inductive FullC (w : World) (lo : Nat) (pt : Nat → TypeId) (ob : Nat → Nat) (nm : ByteArray) (sz en fl : Int) (of ix q : Nat) (ys : List Value) : Int → Array Value → Prop
  | int : FullC w lo pt ob nm sz en fl of ix q ys 1 #[.string nm, .int .u32 sz, .int .u8 en]
  | ptr : FullC w lo pt ob nm sz en fl of ix q ys 2 #[.iface (pt of) (.pointer (some ⟨ob of, 0, none⟩))]
  | arr : FullC w lo pt ob nm sz en fl of ix q ys 3 #[.iface (pt ix) (.pointer (some ⟨ob ix, 0, none⟩)), .iface (pt of) (.pointer (some ⟨ob of, 0, none⟩)), .int .u32 sz]
  | str {k : Int} {v : Value} {xs : List Value} (hk : k = 4 ∨ k = 5) (ho : w.ownsRow lo 189 5 v q xs) (hr : BRows ys xs pt ob q) : FullC w lo pt ob nm sz en fl of ix q ys k #[.string nm, .int .u32 sz, v, .slice none 0 0]
  | enm {v : Value} {xs : List Value} (ho : w.ownsRow lo 131 2 v q xs) (hr : ERows ys xs q) : FullC w lo pt ob nm sz en fl of ix q ys 6 #[.string nm, .int .u32 sz, .bool (fl == 1), v]
  | tdf : FullC w lo pt ob nm sz en fl of ix q ys 8 #[.string nm, .iface (pt of) (.pointer (some ⟨ob of, 0, none⟩)), .slice none 0 0]
  | cst : FullC w lo pt ob nm sz en fl of ix q ys 10 #[.iface (pt of) (.pointer (some ⟨ob of, 0, none⟩))]
theorem FullC.of_eq {w w' : World} {lo : Nat} {pt : Nat → TypeId} {ob : Nat → Nat} {nm : ByteArray} {sz en fl : Int} {of ix q : Nat} {ys : List Value} {k : Int} {cs : Array Value} (h : FullC w lo pt ob nm sz en fl of ix q ys k cs)
    (hw : ∀ g, g < w.heap.size → lo ≤ g → w'.heap[g]? = w.heap[g]?) : FullC w' lo pt ob nm sz en fl of ix q ys k cs := by
  cases h with
  | int => exact .int
  | ptr => exact .ptr
  | arr => exact .arr
  | str hk ho hr => exact .str hk (ownsRow_of ho fun g hg hl => hw g hl (ho.lt g hg).1) hr
  | enm ho hr => exact .enm (ownsRow_of ho fun g hg hl => hw g hl (ho.lt g hg).1) hr
  | tdf => exact .tdf
  | cst => exact .cst

/-- What a call of fill leaves. -/
def FillPost (w : World) (b lo : Nat) (ty : TypeId) (pt : Nat → TypeId) (ob : Nat → Nat) (nm : ByteArray) (sz en fl : Int) (of ix q : Nat) (ys : List Value) (k : Int) (w' : World) : Prop :=
  ∃ cs, w.grownBy w' (some b) ∧ Blk w' b cs ty ∧ FullC w' lo pt ob nm sz en fl of ix q ys k cs
theorem grown_set {w : World} {o : Obj} {b i : Nat} {u : Value} : w.grownBy ((w.alloc o).setCell ⟨b, i, none⟩ u) (some b) :=
  ⟨rfl, rfl, rfl, by simp, fun k hk hne => by rw [Below.heap_setCell _ _ _ _ (fun e => hne (by rw [e]))]; exact Below.heap_alloc w o k hk⟩

theorem grown_set2 {w : World} {o : Obj} {b i : Nat} {u : Value} : w.grownBy ((w.setCell ⟨b, i, none⟩ u).alloc o) (some b) :=
  ⟨rfl, rfl, rfl, by simp, fun k hk hne => by rw [Below.heap_alloc _ o k (by simpa using hk)]; exact Below.heap_setCell _ _ _ _ (fun e => hne (by rw [e]))⟩
theorem ta_no {T e : TypeId} (hu : Tryz.prog.underlying T = some (.pointer e)) (hz : ∀ W : World, (zeroValue T).run Tryz.prog W = .ok (.pointer none) W) (u : TypeId) (h : u ≠ T) (W : World) (v : Value) :
    (Instr.typeAssert (.iface u v) 77 T true).run Tryz.prog W = .ok (.tuple #[.pointer none, .bool false]) W := by
  simp [Instr.typeAssert, run_underlying hu, h, hz, Result.andThen]
theorem ta_yes {T e : TypeId} (hu : Tryz.prog.underlying T = some (.pointer e)) (W : World) (v : Value) :
    (Instr.typeAssert (.iface T v) 77 T true).run Tryz.prog W = .ok (.tuple #[v, .bool true]) W := by
  simp [Instr.typeAssert, run_underlying hu, Result.andThen]
theorem taNoPointer (u : TypeId) (h : u ≠ 164) (W : World) (v : Value) : (Instr.typeAssert (.iface u v) 77 164 true).run Tryz.prog W = .ok (.tuple #[.pointer none, .bool false]) W := ta_no Tryz.underlying164 (fun W => by kernel_rfl) u h W v
theorem taNoArray (u : TypeId) (h : u ≠ 167) (W : World) (v : Value) : (Instr.typeAssert (.iface u v) 77 167 true).run Tryz.prog W = .ok (.tuple #[.pointer none, .bool false]) W := ta_no Tryz.underlying167 (fun W => by kernel_rfl) u h W v
theorem taNoStruct (u : TypeId) (h : u ≠ 162) (W : World) (v : Value) : (Instr.typeAssert (.iface u v) 77 162 true).run Tryz.prog W = .ok (.tuple #[.pointer none, .bool false]) W := ta_no Tryz.underlying162 (fun W => by kernel_rfl) u h W v
theorem taNoUnion (u : TypeId) (h : u ≠ 163) (W : World) (v : Value) : (Instr.typeAssert (.iface u v) 77 163 true).run Tryz.prog W = .ok (.tuple #[.pointer none, .bool false]) W := ta_no Tryz.underlying163 (fun W => by kernel_rfl) u h W v
theorem taNoEnum (u : TypeId) (h : u ≠ 144) (W : World) (v : Value) : (Instr.typeAssert (.iface u v) 77 144 true).run Tryz.prog W = .ok (.tuple #[.pointer none, .bool false]) W := ta_no Tryz.underlying144 (fun W => by kernel_rfl) u h W v
theorem taNoTypedef (u : TypeId) (h : u ≠ 196) (W : World) (v : Value) : (Instr.typeAssert (.iface u v) 77 196 true).run Tryz.prog W = .ok (.tuple #[.pointer none, .bool false]) W := ta_no Tryz.underlying196 (fun W => by kernel_rfl) u h W v
theorem taNoVolatile (u : TypeId) (h : u ≠ 199) (W : World) (v : Value) : (Instr.typeAssert (.iface u v) 77 199 true).run Tryz.prog W = .ok (.tuple #[.pointer none, .bool false]) W := ta_no Tryz.underlying199 (fun W => by kernel_rfl) u h W v
theorem taNoConst (u : TypeId) (h : u ≠ 202) (W : World) (v : Value) : (Instr.typeAssert (.iface u v) 77 202 true).run Tryz.prog W = .ok (.tuple #[.pointer none, .bool false]) W := ta_no Tryz.underlying202 (fun W => by kernel_rfl) u h W v
theorem taNoRestrict (u : TypeId) (h : u ≠ 204) (W : World) (v : Value) : (Instr.typeAssert (.iface u v) 77 204 true).run Tryz.prog W = .ok (.tuple #[.pointer none, .bool false]) W := ta_no Tryz.underlying204 (fun W => by kernel_rfl) u h W v
theorem taNoFunc (u : TypeId) (h : u ≠ 206) (W : World) (v : Value) : (Instr.typeAssert (.iface u v) 77 206 true).run Tryz.prog W = .ok (.tuple #[.pointer none, .bool false]) W := ta_no Tryz.underlying206 (fun W => by kernel_rfl) u h W v
theorem taNoFuncProto (u : TypeId) (h : u ≠ 170) (W : World) (v : Value) : (Instr.typeAssert (.iface u v) 77 170 true).run Tryz.prog W = .ok (.tuple #[.pointer none, .bool false]) W := ta_no Tryz.underlying170 (fun W => by kernel_rfl) u h W v
theorem taNoVar (u : TypeId) (h : u ≠ 211) (W : World) (v : Value) : (Instr.typeAssert (.iface u v) 77 211 true).run Tryz.prog W = .ok (.tuple #[.pointer none, .bool false]) W := ta_no Tryz.underlying211 (fun W => by kernel_rfl) u h W v
theorem taNoDatasec (u : TypeId) (h : u ≠ 215) (W : World) (v : Value) : (Instr.typeAssert (.iface u v) 77 215 true).run Tryz.prog W = .ok (.tuple #[.pointer none, .bool false]) W := ta_no Tryz.underlying215 (fun W => by kernel_rfl) u h W v
theorem taNoTypeTag (u : TypeId) (h : u ≠ 221) (W : World) (v : Value) : (Instr.typeAssert (.iface u v) 77 221 true).run Tryz.prog W = .ok (.tuple #[.pointer none, .bool false]) W := ta_no Tryz.underlying221 (fun W => by kernel_rfl) u h W v
section
variable (w : World) (k : Int) (nm : ByteArray) (sz en fl : Int) (of ix : Nat) (mv : Value) (q n cap og oc b lo : Nat) (ys : List Value) (pt : Nat → TypeId) (ob : Nat → Nat) (ha : AtSt w n cap og oc pt ob) (hn : n ≤ 1000000) (hlo : lo ≤ w.heap.size)
  (hof : of ≤ n) (hix : ix ≤ n) (hbo : b ≠ og ∧ b ≠ oc)
set_option linter.unusedSimpArgs false in
set_option linter.unusedSimpArgs false in
set_option maxRecDepth 100000 in
set_option maxHeartbeats 4000000 in
theorem fill_int (hb : Blk w b #[.string nm, .int .u32 sz, .int .u8 en] 156) :
    Calls Tryz.prog 51 #[.iface 151 (.pointer (some ⟨b, 0, none⟩)), .agg #[.int .i64 1, .string nm, .int .i64 sz, .int .i64 en, .int .i64 fl, .int .i64 of, .int .i64 ix, mv], .func (.func 50) #[] #[.pointer (some ⟨oc, 0, none⟩)]] w
      fun e w' => e = .returned (.tuple #[]) ∧ FillPost w b lo 156 pt ob nm sz en fl of ix q ys 1 w' := by
  have nPointer := taNoPointer 151 (by decide)
  have nArray := taNoArray 151 (by decide)
  have nStruct := taNoStruct 151 (by decide)
  have nUnion := taNoUnion 151 (by decide)
  have nEnum := taNoEnum 151 (by decide)
  have nTypedef := taNoTypedef 151 (by decide)
  have nVolatile := taNoVolatile 151 (by decide)
  have nConst := taNoConst 151 (by decide)
  have nRestrict := taNoRestrict 151 (by decide)
  have nFunc := taNoFunc 151 (by decide)
  have nFuncProto := taNoFuncProto 151 (by decide)
  have nVar := taNoVar 151 (by decide)
  have nDatasec := taNoDatasec 151 (by decide)
  have nTypeTag := taNoTypeTag 151 (by decide)
  go_enter Tryz.func51, Tryz.ntmps51
  go_wp2
  go_end0
  exact ⟨rfl, _, ⟨rfl, rfl, rfl, by simp, fun k hk _ => Below.heap_alloc w _ k hk⟩, hb.alloc _, .int⟩
set_option linter.unusedSimpArgs false in
set_option maxRecDepth 100000 in
set_option maxHeartbeats 4000000 in
include ha hn hof in
theorem fill_ptr (hb : Blk w b #[.nilIface] 166) (h1 : 1 ≤ of) :
    Calls Tryz.prog 51 #[.iface 164 (.pointer (some ⟨b, 0, none⟩)), .agg #[.int .i64 2, .string nm, .int .i64 sz, .int .i64 en, .int .i64 fl, .int .i64 of, .int .i64 ix, mv], .func (.func 50) #[] #[.pointer (some ⟨oc, 0, none⟩)]] w
      fun e w' => e = .returned (.tuple #[]) ∧ FillPost w b lo 166 pt ob nm sz en fl of ix q ys 2 w' := by

  have y0 := @ta_yes _ _ Tryz.underlying164
  have hbl := hb.lt
  have hbf := (hb.alloc (.cells #[.int .i64 2, .string nm, .int .i64 sz, .int .i64 en, .int .i64 fl, .int .i64 of, .int .i64 ix, mv] 72)).free 0
  have hbc := (hb.alloc (.cells #[.int .i64 2, .string nm, .int .i64 sz, .int .i64 en, .int .i64 fl, .int .i64 of, .int .i64 ix, mv] 72)).cell 0
  simp only [List.getElem?_toArray, List.getElem?_cons_zero, List.getElem?_cons_succ] at hbc
  go_enter Tryz.func51, Tryz.ntmps51
  go_wp2_with fail
  refine (at_any of n cap og oc pt ob _ h1 hof hn (ha.old ((Below.refl _ _).alloc (Nat.le_refl _) _))).mono ?_
  rintro e w1 ⟨rfl, rfl⟩
  go_wp2_with fail
  go_end0
  exact ⟨rfl, _, grown_set2, (hb.set 0 _).alloc _, .ptr⟩
set_option linter.unusedSimpArgs false in
set_option maxRecDepth 100000 in
set_option maxHeartbeats 4000000 in
include ha hn hof in
theorem fill_tdf (hb : Blk w b #[.string nm, .nilIface, .slice none 0 0] 198) (h1 : 1 ≤ of) :
    Calls Tryz.prog 51 #[.iface 196 (.pointer (some ⟨b, 0, none⟩)), .agg #[.int .i64 8, .string nm, .int .i64 sz, .int .i64 en, .int .i64 fl, .int .i64 of, .int .i64 ix, mv], .func (.func 50) #[] #[.pointer (some ⟨oc, 0, none⟩)]] w
      fun e w' => e = .returned (.tuple #[]) ∧ FillPost w b lo 198 pt ob nm sz en fl of ix q ys 8 w' := by
  have nPointer := taNoPointer 196 (by decide)
  have nArray := taNoArray 196 (by decide)
  have nStruct := taNoStruct 196 (by decide)
  have nUnion := taNoUnion 196 (by decide)
  have nEnum := taNoEnum 196 (by decide)
  have y0 := @ta_yes _ _ Tryz.underlying196
  have hbl := hb.lt
  have hbf := (hb.alloc (.cells #[.int .i64 8, .string nm, .int .i64 sz, .int .i64 en, .int .i64 fl, .int .i64 of, .int .i64 ix, mv] 72)).free 1
  have hbc := (hb.alloc (.cells #[.int .i64 8, .string nm, .int .i64 sz, .int .i64 en, .int .i64 fl, .int .i64 of, .int .i64 ix, mv] 72)).cell 1
  simp only [List.getElem?_toArray, List.getElem?_cons_zero, List.getElem?_cons_succ] at hbc
  go_enter Tryz.func51, Tryz.ntmps51
  go_wp2_with fail
  refine (at_any of n cap og oc pt ob _ h1 hof hn (ha.old ((Below.refl _ _).alloc (Nat.le_refl _) _))).mono ?_
  rintro e w1 ⟨rfl, rfl⟩
  go_wp2_with fail
  go_end0
  exact ⟨rfl, _, grown_set2, (hb.set 1 _).alloc _, .tdf⟩
set_option linter.unusedSimpArgs false in
set_option maxRecDepth 100000 in
set_option maxHeartbeats 4000000 in
include ha hn hof in
theorem fill_cst (hb : Blk w b #[.nilIface] 203) (h1 : 1 ≤ of) :
    Calls Tryz.prog 51 #[.iface 202 (.pointer (some ⟨b, 0, none⟩)), .agg #[.int .i64 10, .string nm, .int .i64 sz, .int .i64 en, .int .i64 fl, .int .i64 of, .int .i64 ix, mv], .func (.func 50) #[] #[.pointer (some ⟨oc, 0, none⟩)]] w
      fun e w' => e = .returned (.tuple #[]) ∧ FillPost w b lo 203 pt ob nm sz en fl of ix q ys 10 w' := by
  have nPointer := taNoPointer 202 (by decide)
  have nArray := taNoArray 202 (by decide)
  have nStruct := taNoStruct 202 (by decide)
  have nUnion := taNoUnion 202 (by decide)
  have nEnum := taNoEnum 202 (by decide)
  have nTypedef := taNoTypedef 202 (by decide)
  have nVolatile := taNoVolatile 202 (by decide)
  have y0 := @ta_yes _ _ Tryz.underlying202
  have hbl := hb.lt
  have hbf := (hb.alloc (.cells #[.int .i64 10, .string nm, .int .i64 sz, .int .i64 en, .int .i64 fl, .int .i64 of, .int .i64 ix, mv] 72)).free 0
  have hbc := (hb.alloc (.cells #[.int .i64 10, .string nm, .int .i64 sz, .int .i64 en, .int .i64 fl, .int .i64 of, .int .i64 ix, mv] 72)).cell 0
  simp only [List.getElem?_toArray, List.getElem?_cons_zero, List.getElem?_cons_succ] at hbc
  go_enter Tryz.func51, Tryz.ntmps51
  go_wp2_with fail
  refine (at_any of n cap og oc pt ob _ h1 hof hn (ha.old ((Below.refl _ _).alloc (Nat.le_refl _) _))).mono ?_
  rintro e w1 ⟨rfl, rfl⟩
  go_wp2_with fail
  go_end0
  exact ⟨rfl, _, grown_set2, (hb.set 0 _).alloc _, .cst⟩
end
#print axioms fill_int
end Go.Proofs.YtfilbgmbmlmdbaaGreatDoor
