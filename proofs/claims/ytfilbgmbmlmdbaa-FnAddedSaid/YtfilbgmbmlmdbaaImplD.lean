/- The thin package's own filling in of parts, of each kind of type. -/
import Derived.Test.YtfilbgmbmlmdbaaImplC
namespace Go.Proofs.Ytfilbgmbmlmdbaa
open Go.RowKit

/-- Row j of an enumeration's values. -/
def ERows (ys xs : List Value) (k : Nat) : Prop := ∀ j, j < k → ∃ (nm : ByteArray) (o : Value) (a b v : Int), PRow ys j nm o a b v ∧ xs[2 * j]? = some (.string nm) ∧ xs[2 * j + 1]? = some (.int .u64 (IntKind.u64.wrap v))
/-- What a type of the package is made of, its parts among it. -/
inductive FullC (w : World) (lo : Nat) (pt : Nat → TypeId) (ob : Nat → Nat) (nm : ByteArray) (sz en fl : Int) (of ix q : Nat) (ys : List Value) : Int → Array Value → Prop
  | int : FullC w lo pt ob nm sz en fl of ix q ys 1 #[.string nm, .int .u32 sz, .int .u8 en]
  | ptr : FullC w lo pt ob nm sz en fl of ix q ys 2 #[.iface (pt of) (.pointer (some ⟨ob of, 0, none⟩))]
  | arr : FullC w lo pt ob nm sz en fl of ix q ys 3 #[.iface (pt ix) (.pointer (some ⟨ob ix, 0, none⟩)), .iface (pt of) (.pointer (some ⟨ob of, 0, none⟩)), .int .u32 sz]
  | str {k : Int} {v : Value} {xs : List Value} (hk : k = 4 ∨ k = 5) (ho : w.ownsRow lo 181 5 v q xs) (hr : BRows ys xs pt ob q) : FullC w lo pt ob nm sz en fl of ix q ys k #[.string nm, .int .u32 sz, v, .slice none 0 0]
  | enm {v : Value} {xs : List Value} (ho : w.ownsRow lo 174 2 v q xs) (hr : ERows ys xs q) : FullC w lo pt ob nm sz en fl of ix q ys 6 #[.string nm, .int .u32 sz, .bool (fl == 1), v]
  | tdf : FullC w lo pt ob nm sz en fl of ix q ys 8 #[.string nm, .iface (pt of) (.pointer (some ⟨ob of, 0, none⟩)), .slice none 0 0]
  | cst : FullC w lo pt ob nm sz en fl of ix q ys 10 #[.iface (pt of) (.pointer (some ⟨ob of, 0, none⟩))]
theorem FullC.of_eq {w w' : World} {lo : Nat} {pt : Nat → TypeId} {ob : Nat → Nat} {nm : ByteArray} {sz en fl : Int} {of ix q : Nat} {ys : List Value} {k : Int} {cs : Array Value} (h : FullC w lo pt ob nm sz en fl of ix q ys k cs)
    (hw : ∀ g, g < w.heap.size → lo ≤ g → w'.heap[g]? = w.heap[g]?) : FullC w' lo pt ob nm sz en fl of ix q ys k cs := by
  cases h with
  | int => exact .int
  | ptr => exact .ptr
  | arr => exact .arr
  | str hk ho hr => exact .str hk (ownsRow_of ho fun g hg hl => hw g hl (ho.lt g hg).1) hr
  | enm ho hr => exact .enm (ownsRow_of ho fun g hg hl => hw g hl (ho.lt g hg).1) hr
  | tdf => exact .tdf
  | cst => exact .cst

/-- What a call of fill leaves. -/
def FillPost (w : World) (b lo : Nat) (ty : TypeId) (pt : Nat → TypeId) (ob : Nat → Nat) (nm : ByteArray) (sz en fl : Int) (of ix q : Nat) (ys : List Value) (k : Int) (w' : World) : Prop :=
  ∃ cs, w.grownBy w' (some b) ∧ Blk w' b cs ty ∧ FullC w' lo pt ob nm sz en fl of ix q ys k cs
theorem grown_set {w : World} {o : Obj} {b i : Nat} {u : Value} : w.grownBy ((w.alloc o).setCell ⟨b, i, none⟩ u) (some b) :=
  ⟨rfl, rfl, rfl, by simp, fun k hk hne => by rw [Below.heap_setCell _ _ _ _ (fun e => hne (by rw [e]))]; exact Below.heap_alloc w o k hk⟩

theorem grown_set2 {w : World} {o : Obj} {b i : Nat} {u : Value} : w.grownBy ((w.setCell ⟨b, i, none⟩ u).alloc o) (some b) :=
  ⟨rfl, rfl, rfl, by simp, fun k hk hne => by rw [Below.heap_alloc _ o k (by simpa using hk)]; exact Below.heap_setCell _ _ _ _ (fun e => hne (by rw [e]))⟩
theorem ta_no {T e : TypeId} (hu : Try.prog.underlying T = some (.pointer e)) (hz : ∀ W : World, (zeroValue T).run Try.prog W = .ok (.pointer none) W) (u : TypeId) (h : u ≠ T) (W : World) (v : Value) :
    (Instr.typeAssert (.iface u v) 48 T true).run Try.prog W = .ok (.tuple #[.pointer none, .bool false]) W := by
  simp [Instr.typeAssert, run_underlying hu, h, hz, Result.andThen]
theorem ta_yes {T e : TypeId} (hu : Try.prog.underlying T = some (.pointer e)) (W : World) (v : Value) :
    (Instr.typeAssert (.iface T v) 48 T true).run Try.prog W = .ok (.tuple #[v, .bool true]) W := by
  simp [Instr.typeAssert, run_underlying hu, Result.andThen]
theorem taNoPointer (u : TypeId) (h : u ≠ 54) (W : World) (v : Value) : (Instr.typeAssert (.iface u v) 48 54 true).run Try.prog W = .ok (.tuple #[.pointer none, .bool false]) W := ta_no Try.underlying54 (fun W => by kernel_rfl) u h W v
theorem taNoArray (u : TypeId) (h : u ≠ 55) (W : World) (v : Value) : (Instr.typeAssert (.iface u v) 48 55 true).run Try.prog W = .ok (.tuple #[.pointer none, .bool false]) W := ta_no Try.underlying55 (fun W => by kernel_rfl) u h W v
theorem taNoStruct (u : TypeId) (h : u ≠ 56) (W : World) (v : Value) : (Instr.typeAssert (.iface u v) 48 56 true).run Try.prog W = .ok (.tuple #[.pointer none, .bool false]) W := ta_no Try.underlying56 (fun W => by kernel_rfl) u h W v
theorem taNoUnion (u : TypeId) (h : u ≠ 57) (W : World) (v : Value) : (Instr.typeAssert (.iface u v) 48 57 true).run Try.prog W = .ok (.tuple #[.pointer none, .bool false]) W := ta_no Try.underlying57 (fun W => by kernel_rfl) u h W v
theorem taNoEnum (u : TypeId) (h : u ≠ 58) (W : World) (v : Value) : (Instr.typeAssert (.iface u v) 48 58 true).run Try.prog W = .ok (.tuple #[.pointer none, .bool false]) W := ta_no Try.underlying58 (fun W => by kernel_rfl) u h W v
theorem taNoTypedef (u : TypeId) (h : u ≠ 59) (W : World) (v : Value) : (Instr.typeAssert (.iface u v) 48 59 true).run Try.prog W = .ok (.tuple #[.pointer none, .bool false]) W := ta_no Try.underlying59 (fun W => by kernel_rfl) u h W v
theorem taNoVolatile (u : TypeId) (h : u ≠ 143) (W : World) (v : Value) : (Instr.typeAssert (.iface u v) 48 143 true).run Try.prog W = .ok (.tuple #[.pointer none, .bool false]) W := ta_no Try.underlying143 (fun W => by kernel_rfl) u h W v
theorem taNoConst (u : TypeId) (h : u ≠ 146) (W : World) (v : Value) : (Instr.typeAssert (.iface u v) 48 146 true).run Try.prog W = .ok (.tuple #[.pointer none, .bool false]) W := ta_no Try.underlying146 (fun W => by kernel_rfl) u h W v
theorem taNoRestrict (u : TypeId) (h : u ≠ 148) (W : World) (v : Value) : (Instr.typeAssert (.iface u v) 48 148 true).run Try.prog W = .ok (.tuple #[.pointer none, .bool false]) W := ta_no Try.underlying148 (fun W => by kernel_rfl) u h W v
theorem taNoFunc (u : TypeId) (h : u ≠ 150) (W : World) (v : Value) : (Instr.typeAssert (.iface u v) 48 150 true).run Try.prog W = .ok (.tuple #[.pointer none, .bool false]) W := ta_no Try.underlying150 (fun W => by kernel_rfl) u h W v
theorem taNoFuncProto (u : TypeId) (h : u ≠ 60) (W : World) (v : Value) : (Instr.typeAssert (.iface u v) 48 60 true).run Try.prog W = .ok (.tuple #[.pointer none, .bool false]) W := ta_no Try.underlying60 (fun W => by kernel_rfl) u h W v
theorem taNoVar (u : TypeId) (h : u ≠ 158) (W : World) (v : Value) : (Instr.typeAssert (.iface u v) 48 158 true).run Try.prog W = .ok (.tuple #[.pointer none, .bool false]) W := ta_no Try.underlying158 (fun W => by kernel_rfl) u h W v
theorem taNoDatasec (u : TypeId) (h : u ≠ 114) (W : World) (v : Value) : (Instr.typeAssert (.iface u v) 48 114 true).run Try.prog W = .ok (.tuple #[.pointer none, .bool false]) W := ta_no Try.underlying114 (fun W => by kernel_rfl) u h W v
theorem taNoTypeTag (u : TypeId) (h : u ≠ 168) (W : World) (v : Value) : (Instr.typeAssert (.iface u v) 48 168 true).run Try.prog W = .ok (.tuple #[.pointer none, .bool false]) W := ta_no Try.underlying168 (fun W => by kernel_rfl) u h W v
section
variable (w : World) (k : Int) (nm : ByteArray) (sz en fl : Int) (of ix : Nat) (mv : Value) (q n cap og oc b lo : Nat) (ys : List Value) (pt : Nat → TypeId) (ob : Nat → Nat) (ha : AtSt w n cap og oc pt ob) (hn : n ≤ 1000000) (hlo : lo ≤ w.heap.size)
  (hof : of ≤ n) (hix : ix ≤ n) (hbo : b ≠ og ∧ b ≠ oc)
set_option linter.unusedSimpArgs false in
set_option linter.unusedSimpArgs false in
set_option maxRecDepth 100000 in
set_option maxHeartbeats 4000000 in
theorem fill_int (hb : Blk w b #[.string nm, .int .u32 sz, .int .u8 en] 127) :
    Calls Try.prog 41 #[.iface 53 (.pointer (some ⟨b, 0, none⟩)), .agg #[.int .i64 1, .string nm, .int .i64 sz, .int .i64 en, .int .i64 fl, .int .i64 of, .int .i64 ix, mv], .func (.func 40) #[] #[.pointer (some ⟨oc, 0, none⟩)]] w
      fun e w' => e = .returned (.tuple #[]) ∧ FillPost w b lo 127 pt ob nm sz en fl of ix q ys 1 w' := by
  have nPointer := taNoPointer 53 (by decide)
  have nArray := taNoArray 53 (by decide)
  have nStruct := taNoStruct 53 (by decide)
  have nUnion := taNoUnion 53 (by decide)
  have nEnum := taNoEnum 53 (by decide)
  have nTypedef := taNoTypedef 53 (by decide)
  have nVolatile := taNoVolatile 53 (by decide)
  have nConst := taNoConst 53 (by decide)
  have nRestrict := taNoRestrict 53 (by decide)
  have nFunc := taNoFunc 53 (by decide)
  have nFuncProto := taNoFuncProto 53 (by decide)
  have nVar := taNoVar 53 (by decide)
  have nDatasec := taNoDatasec 53 (by decide)
  have nTypeTag := taNoTypeTag 53 (by decide)
  go_enter Try.func41, Try.ntmps41
  go_wp2
  go_end0
  exact ⟨rfl, _, ⟨rfl, rfl, rfl, by simp, fun k hk _ => Below.heap_alloc w _ k hk⟩, hb.alloc _, .int⟩
set_option linter.unusedSimpArgs false in
set_option maxRecDepth 100000 in
set_option maxHeartbeats 4000000 in
include ha hn hof in
theorem fill_ptr (hb : Blk w b #[.nilIface] 129) (h1 : 1 ≤ of) :
    Calls Try.prog 41 #[.iface 54 (.pointer (some ⟨b, 0, none⟩)), .agg #[.int .i64 2, .string nm, .int .i64 sz, .int .i64 en, .int .i64 fl, .int .i64 of, .int .i64 ix, mv], .func (.func 40) #[] #[.pointer (some ⟨oc, 0, none⟩)]] w
      fun e w' => e = .returned (.tuple #[]) ∧ FillPost w b lo 129 pt ob nm sz en fl of ix q ys 2 w' := by

  have y0 := @ta_yes _ _ Try.underlying54
  have hbl := hb.lt
  have hbf := (hb.alloc (.cells #[.int .i64 2, .string nm, .int .i64 sz, .int .i64 en, .int .i64 fl, .int .i64 of, .int .i64 ix, mv] 28)).free 0
  have hbc := (hb.alloc (.cells #[.int .i64 2, .string nm, .int .i64 sz, .int .i64 en, .int .i64 fl, .int .i64 of, .int .i64 ix, mv] 28)).cell 0
  simp only [List.getElem?_toArray, List.getElem?_cons_zero, List.getElem?_cons_succ] at hbc
  go_enter Try.func41, Try.ntmps41
  go_wp2_with fail
  refine (at_any of n cap og oc pt ob _ h1 hof hn (ha.old ((Below.refl _ _).alloc (Nat.le_refl _) _))).mono ?_
  rintro e w1 ⟨rfl, rfl⟩
  go_wp2_with fail
  go_end0
  exact ⟨rfl, _, grown_set2, (hb.set 0 _).alloc _, .ptr⟩
set_option linter.unusedSimpArgs false in
set_option maxRecDepth 100000 in
set_option maxHeartbeats 4000000 in
include ha hn hof in
theorem fill_tdf (hb : Blk w b #[.string nm, .nilIface, .slice none 0 0] 123) (h1 : 1 ≤ of) :
    Calls Try.prog 41 #[.iface 59 (.pointer (some ⟨b, 0, none⟩)), .agg #[.int .i64 8, .string nm, .int .i64 sz, .int .i64 en, .int .i64 fl, .int .i64 of, .int .i64 ix, mv], .func (.func 40) #[] #[.pointer (some ⟨oc, 0, none⟩)]] w
      fun e w' => e = .returned (.tuple #[]) ∧ FillPost w b lo 123 pt ob nm sz en fl of ix q ys 8 w' := by
  have nPointer := taNoPointer 59 (by decide)
  have nArray := taNoArray 59 (by decide)
  have nStruct := taNoStruct 59 (by decide)
  have nUnion := taNoUnion 59 (by decide)
  have nEnum := taNoEnum 59 (by decide)
  have y0 := @ta_yes _ _ Try.underlying59
  have hbl := hb.lt
  have hbf := (hb.alloc (.cells #[.int .i64 8, .string nm, .int .i64 sz, .int .i64 en, .int .i64 fl, .int .i64 of, .int .i64 ix, mv] 28)).free 1
  have hbc := (hb.alloc (.cells #[.int .i64 8, .string nm, .int .i64 sz, .int .i64 en, .int .i64 fl, .int .i64 of, .int .i64 ix, mv] 28)).cell 1
  simp only [List.getElem?_toArray, List.getElem?_cons_zero, List.getElem?_cons_succ] at hbc
  go_enter Try.func41, Try.ntmps41
  go_wp2_with fail
  refine (at_any of n cap og oc pt ob _ h1 hof hn (ha.old ((Below.refl _ _).alloc (Nat.le_refl _) _))).mono ?_
  rintro e w1 ⟨rfl, rfl⟩
  go_wp2_with fail
  go_end0
  exact ⟨rfl, _, grown_set2, (hb.set 1 _).alloc _, .tdf⟩
set_option linter.unusedSimpArgs false in
set_option maxRecDepth 100000 in
set_option maxHeartbeats 4000000 in
include ha hn hof in
theorem fill_cst (hb : Blk w b #[.nilIface] 147) (h1 : 1 ≤ of) :
    Calls Try.prog 41 #[.iface 146 (.pointer (some ⟨b, 0, none⟩)), .agg #[.int .i64 10, .string nm, .int .i64 sz, .int .i64 en, .int .i64 fl, .int .i64 of, .int .i64 ix, mv], .func (.func 40) #[] #[.pointer (some ⟨oc, 0, none⟩)]] w
      fun e w' => e = .returned (.tuple #[]) ∧ FillPost w b lo 147 pt ob nm sz en fl of ix q ys 10 w' := by
  have nPointer := taNoPointer 146 (by decide)
  have nArray := taNoArray 146 (by decide)
  have nStruct := taNoStruct 146 (by decide)
  have nUnion := taNoUnion 146 (by decide)
  have nEnum := taNoEnum 146 (by decide)
  have nTypedef := taNoTypedef 146 (by decide)
  have nVolatile := taNoVolatile 146 (by decide)
  have y0 := @ta_yes _ _ Try.underlying146
  have hbl := hb.lt
  have hbf := (hb.alloc (.cells #[.int .i64 10, .string nm, .int .i64 sz, .int .i64 en, .int .i64 fl, .int .i64 of, .int .i64 ix, mv] 28)).free 0
  have hbc := (hb.alloc (.cells #[.int .i64 10, .string nm, .int .i64 sz, .int .i64 en, .int .i64 fl, .int .i64 of, .int .i64 ix, mv] 28)).cell 0
  simp only [List.getElem?_toArray, List.getElem?_cons_zero, List.getElem?_cons_succ] at hbc
  go_enter Try.func41, Try.ntmps41
  go_wp2_with fail
  refine (at_any of n cap og oc pt ob _ h1 hof hn (ha.old ((Below.refl _ _).alloc (Nat.le_refl _) _))).mono ?_
  rintro e w1 ⟨rfl, rfl⟩
  go_wp2_with fail
  go_end0
  exact ⟨rfl, _, grown_set2, (hb.set 0 _).alloc _, .cst⟩
end
#print axioms fill_int
end Go.Proofs.Ytfilbgmbmlmdbaa
