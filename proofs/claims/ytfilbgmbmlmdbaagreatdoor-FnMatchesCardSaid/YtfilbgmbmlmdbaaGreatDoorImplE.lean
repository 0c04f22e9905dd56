/- The thin package's own filling in of parts: arrays, structs, enumerations. -/
import Derived.Test.YtfilbgmbmlmdbaaGreatDoorImplD
namespace Go.Proofs.YtfilbgmbmlmdbaaGreatDoor
open Go.RowKit

theorem grown_of {w w1 : World} (h : Below w.heap.size w w1) {b i : Nat} {u : Value} : w.grownBy (w1.setCell ⟨b, i, none⟩ u) (some b) :=
  ⟨h.os, h.tape, h.output, by simpa using h.size, fun k hk hne => by rw [Below.heap_setCell _ _ _ _ (fun e => hne (by rw [e]))]; exact h.block k hk⟩
theorem grown_set3 {w : World} {o : Obj} {b i j : Nat} {u v : Value} : w.grownBy ((((w.setCell ⟨b, i, none⟩ u).setCell ⟨b, j, none⟩ v).alloc o).drew) (some b) :=
  ⟨rfl, rfl, rfl, by show w.heap.size ≤ (World.alloc _ _).heap.size; simp, fun k hk hne => by
    show (World.alloc _ o).heap[k]? = _
    rw [Below.heap_alloc _ o k (by simpa using hk), Below.heap_setCell _ _ _ _ (fun e => hne (by rw [e])), Below.heap_setCell _ _ _ _ (fun e => hne (by rw [e]))]⟩
theorem evalParts : ElemOk Tryz.prog 148 131 2 24 := .of (z := .agg #[.string ⟨#[]⟩, .int .u64 0]) Tryz.underlying148 (by kernel_rfl) (by rfl) (by decide)

section
variable (w : World) (nm : ByteArray) (sz en fl : Int) (of ix : Nat) (mv : Value) (q n cap og oc b lo : Nat) (ys : List Value) (pt : Nat → TypeId) (ob : Nat → Nat) (ha : AtSt w n cap og oc pt ob) (hn : n ≤ 1000000) (hlo : lo ≤ w.heap.size)
  (hof : of ≤ n) (hix : ix ≤ n) (hbo : b ≠ og ∧ b ≠ oc)
set_option linter.unusedSimpArgs false in
set_option linter.unusedSectionVars false in
set_option maxRecDepth 100000 in
set_option maxHeartbeats 4000000 in
include ha hn hlo hof hix hbo in
theorem fill_str (hb : Blk w b #[.string nm, .int .u32 sz, .slice none 0 0, .slice none 0 0] 194) (ho : w.ownsRow 0 74 5 mv q ys) (hq : q ≤ 1000)
    (hm : ∀ j, j < q → ∃ (nm : ByteArray) (o : Nat) (a b v : Int), PRow ys j nm (.int .i64 o) a b v ∧ (1 ≤ o ∧ o ≤ n) ∧ (0 ≤ a ∧ a < 4294967296) ∧ (0 ≤ b ∧ b < 4294967296)) :
    Calls Tryz.prog 51 #[.iface 162 (.pointer (some ⟨b, 0, none⟩)), .agg #[.int .i64 4, .string nm, .int .i64 sz, .int .i64 en, .int .i64 fl, .int .i64 of, .int .i64 ix, mv], .func (.func 50) #[] #[.pointer (some ⟨oc, 0, none⟩)]] w
      fun e w' => e = .returned (.tuple #[]) ∧ FillPost w b lo 194 pt ob nm sz en fl of ix q ys 4 w' := by
  have nPointer := taNoPointer 162 (by decide)
  have nArray := taNoArray 162 (by decide)
  have y0 := @ta_yes _ _ Tryz.underlying162
  have hbl := hb.lt
  obtain ⟨ma, mcap, rfl⟩ := own_slice ho
  have hb1 : Below w.heap.size w (w.alloc (.cells #[.int .i64 4, .string nm, .int .i64 sz, .int .i64 en, .int .i64 fl, .int .i64 of, .int .i64 ix, Value.slice ma q mcap] 72)) := (Below.refl _ _).alloc (Nat.le_refl _) _
  go_enter Tryz.func51, Tryz.ntmps51
  go_wp2_with fail
  refine (members_any _ _ q n cap og oc ys pt ob (ha.old hb1) hn (ho.alloc _) hq hm).mono ?_
  rintro e w1 ⟨v, xs, rfl, hown, hrows, hb2⟩
  have hbk := (hb.alloc _).old hb2
  have hbf := hbk.free 2
  have hbc := hbk.cell 2
  simp only [List.getElem?_toArray, List.getElem?_cons_zero, List.getElem?_cons_succ] at hbc
  obtain ⟨va, vcap, rfl⟩ := own_slice hown
  go_wp2_with fail
  go_end0
  refine ⟨rfl, _, grown_of (hb1.trans (hb2.mono hb1.size)), hbk.set 2 _, .str (.inl rfl) ?_ hrows⟩
  exact ownsRow_base (ownsRow_setCell hown (fun x => by have := (hown.lt _ x.symm).1; simp at this; omega) _) (by simp; omega)
set_option linter.unusedSimpArgs false in
set_option linter.unusedSectionVars false in
set_option maxRecDepth 100000 in
set_option maxHeartbeats 4000000 in
include ha hn hlo hof hix hbo in
theorem fill_uni (hb : Blk w b #[.string nm, .int .u32 sz, .slice none 0 0, .slice none 0 0] 195) (ho : w.ownsRow 0 74 5 mv q ys) (hq : q ≤ 1000)
    (hm : ∀ j, j < q → ∃ (nm : ByteArray) (o : Nat) (a b v : Int), PRow ys j nm (.int .i64 o) a b v ∧ (1 ≤ o ∧ o ≤ n) ∧ (0 ≤ a ∧ a < 4294967296) ∧ (0 ≤ b ∧ b < 4294967296)) :
    Calls Tryz.prog 51 #[.iface 163 (.pointer (some ⟨b, 0, none⟩)), .agg #[.int .i64 5, .string nm, .int .i64 sz, .int .i64 en, .int .i64 fl, .int .i64 of, .int .i64 ix, mv], .func (.func 50) #[] #[.pointer (some ⟨oc, 0, none⟩)]] w
      fun e w' => e = .returned (.tuple #[]) ∧ FillPost w b lo 195 pt ob nm sz en fl of ix q ys 5 w' := by
  have nPointer := taNoPointer 163 (by decide)
  have nArray := taNoArray 163 (by decide)
  have nStruct := taNoStruct 163 (by decide)
  have y0 := @ta_yes _ _ Tryz.underlying163
  have hbl := hb.lt
  obtain ⟨ma, mcap, rfl⟩ := own_slice ho
  have hb1 : Below w.heap.size w (w.alloc (.cells #[.int .i64 5, .string nm, .int .i64 sz, .int .i64 en, .int .i64 fl, .int .i64 of, .int .i64 ix, Value.slice ma q mcap] 72)) := (Below.refl _ _).alloc (Nat.le_refl _) _
  go_enter Tryz.func51, Tryz.ntmps51
  go_wp2_with fail
  refine (members_any _ _ q n cap og oc ys pt ob (ha.old hb1) hn (ho.alloc _) hq hm).mono ?_
  rintro e w1 ⟨v, xs, rfl, hown, hrows, hb2⟩
  have hbk := (hb.alloc _).old hb2
  have hbf := hbk.free 2
  have hbc := hbk.cell 2
  simp only [List.getElem?_toArray, List.getElem?_cons_zero, List.getElem?_cons_succ] at hbc
  obtain ⟨va, vcap, rfl⟩ := own_slice hown
  go_wp2_with fail
  go_end0
  refine ⟨rfl, _, grown_of (hb1.trans (hb2.mono hb1.size)), hbk.set 2 _, .str (.inr rfl) ?_ hrows⟩
  exact ownsRow_base (ownsRow_setCell hown (fun x => by have := (hown.lt _ x.symm).1; simp at this; omega) _) (by simp; omega)
set_option linter.unusedSimpArgs false in
set_option linter.unusedSectionVars false in
set_option maxRecDepth 100000 in
set_option maxHeartbeats 4000000 in
include ha hn hlo hof hix hbo in
theorem fill_arr (hb : Blk w b #[.nilIface, .nilIface, .int .u32 sz] 169) (h1 : 1 ≤ of) (h2 : 1 ≤ ix) :
    Calls Tryz.prog 51 #[.iface 167 (.pointer (some ⟨b, 0, none⟩)), .agg #[.int .i64 3, .string nm, .int .i64 sz, .int .i64 en, .int .i64 fl, .int .i64 of, .int .i64 ix, mv], .func (.func 50) #[] #[.pointer (some ⟨oc, 0, none⟩)]] w
      fun e w' => e = .returned (.tuple #[]) ∧ FillPost w b lo 169 pt ob nm sz en fl of ix q ys 3 w' := by
  have nPointer := taNoPointer 167 (by decide)
  have y0 := @ta_yes _ _ Tryz.underlying167
  have hbl := hb.lt
  have hbd : Below w.heap.size w (w.alloc (.cells #[.int .i64 3, .string nm, .int .i64 sz, .int .i64 en, .int .i64 fl, .int .i64 of, .int .i64 ix, mv] 72)).drew := ((Below.refl _ _).alloc (Nat.le_refl _) _).drew
  have hbf0 := hb.free 0
  have hbf1 := hb.free 1
  have hbc0 := hb.cell 0
  have hbc1 := hb.cell 1
  have hr : Blk (w.alloc (.cells #[.int .i64 3, .string nm, .int .i64 sz, .int .i64 en, .int .i64 fl, .int .i64 of, .int .i64 ix, mv] 72)).drew w.heap.size _ _ := (Blk.new _ _ _).drew
  have hr5 := hr.cell 5
  have hr6 := hr.cell 6
  simp only [List.getElem?_toArray, List.getElem?_cons_zero, List.getElem?_cons_succ] at hbc0 hbc1 hr5 hr6
  go_enter Tryz.func51, Tryz.ntmps51
  go_upto_region 7 with fail
  have hSof : ∀ w', Blk w' w.heap.size #[.int .i64 3, .string nm, .int .i64 sz, .int .i64 en, .int .i64 fl, .int .i64 of, .int .i64 ix, mv] 72 → w'.cell? ⟨w.heap.size, 5, none⟩ = some (.int .i64 of) ∧ w'.cell? ⟨w.heap.size, 6, none⟩ = some (.int .i64 ix) := fun w' h => ⟨h.cell 5, h.cell 6⟩
  refine AnyBut.start (S := (fun w' => w'.cell? ⟨w.heap.size, 5, none⟩ = some (.int .i64 of) ∧ w'.cell? ⟨w.heap.size, 6, none⟩ = some (.int .i64 ix))) (t := 15) (by as_aux_lemma => kernel_rfl) (hSof _ hr) (fun hHeld => ?_)
  refine AnyBut.take (i := 0) (v := ?_) rfl (by as_aux_lemma => kernel_rfl) (by as_aux_lemma => kernel_rfl) (by as_aux_lemma => kernel_rfl) (by as_aux_lemma => kernel_rfl) (fun _ _ _ h => h) hHeld (by rfl) ?_ ?_
  rotate_left
  focus (intro w hSw; (try dsimp only at hSw); go_simp <;> with_reducible rfl)
  try simp only [Act.put, List.setIfInBounds_toArray, List.set_cons_zero, List.set_cons_succ]
  refine AnyBut.take (i := 1) (v := ?_) rfl (by as_aux_lemma => kernel_rfl) (by as_aux_lemma => kernel_rfl) (by as_aux_lemma => kernel_rfl) (by as_aux_lemma => kernel_rfl) (fun _ _ _ h => h) hHeld (by rfl) ?_ ?_
  rotate_left
  focus (intro w hSw; (try dsimp only at hSw); go_simp <;> with_reducible rfl)
  try simp only [Act.put, List.setIfInBounds_toArray, List.set_cons_zero, List.set_cons_succ]
  refine AnyBut.take (i := 2) (v := ?_) rfl (by as_aux_lemma => kernel_rfl) (by as_aux_lemma => kernel_rfl) (by as_aux_lemma => kernel_rfl) (by as_aux_lemma => kernel_rfl) (fun _ _ _ h => h) hHeld (by rfl) ?_ ?_
  rotate_left
  focus (intro w hSw; (try dsimp only at hSw); go_simp <;> with_reducible rfl)
  try simp only [Act.put, List.setIfInBounds_toArray, List.set_cons_zero, List.set_cons_succ]
  refine AnyBut.take (i := 3) (v := ?_) rfl (by as_aux_lemma => kernel_rfl) (by as_aux_lemma => kernel_rfl) (by as_aux_lemma => kernel_rfl) (by as_aux_lemma => kernel_rfl) (fun _ _ _ h => h) hHeld (by rfl) ?_ ?_
  rotate_left
  focus (intro w hSw; (try dsimp only at hSw); go_simp <;> with_reducible rfl)
  try simp only [Act.put, List.setIfInBounds_toArray, List.set_cons_zero, List.set_cons_succ]
  refine AnyBut.take (i := 4) (v := ?_) rfl (by as_aux_lemma => kernel_rfl) (by as_aux_lemma => kernel_rfl) (by as_aux_lemma => kernel_rfl) (by as_aux_lemma => kernel_rfl) (fun _ _ _ h => h) hHeld (by rfl) ?_ ?_
  rotate_left
  focus (intro w hSw; (try dsimp only at hSw); go_simp <;> with_reducible rfl)
  try simp only [Act.put, List.setIfInBounds_toArray, List.set_cons_zero, List.set_cons_succ]
  refine AnyBut.take (i := 6) (v := ?_) rfl (by as_aux_lemma => kernel_rfl) (by as_aux_lemma => kernel_rfl) (by as_aux_lemma => kernel_rfl) (by as_aux_lemma => kernel_rfl) (fun _ _ _ h => h) hHeld (by rfl) ?_ ?_
  rotate_left
  focus (intro w hSw; (try dsimp only at hSw); go_simp <;> with_reducible rfl)
  try simp only [Act.put, List.setIfInBounds_toArray, List.set_cons_zero, List.set_cons_succ]
  refine AnyBut.take (i := 7) (v := ?_) rfl (by as_aux_lemma => kernel_rfl) (by as_aux_lemma => kernel_rfl) (by as_aux_lemma => kernel_rfl) (by as_aux_lemma => kernel_rfl) (fun _ _ _ h => h) hHeld (by rfl) ?_ ?_
  rotate_left
  focus (intro w hSw; (try dsimp only at hSw); go_simp <;> with_reducible rfl)
  try simp only [Act.put, List.setIfInBounds_toArray, List.set_cons_zero, List.set_cons_succ]
  refine AnyBut.take (i := 8) (v := ?_) rfl (by as_aux_lemma => kernel_rfl) (by as_aux_lemma => kernel_rfl) (by as_aux_lemma => kernel_rfl) (by as_aux_lemma => kernel_rfl) (fun _ _ _ h => h) hHeld (by rfl) ?_ ?_
  rotate_left
  focus (intro w hSw; (try dsimp only at hSw); go_simp <;> with_reducible rfl)
  try simp only [Act.put, List.setIfInBounds_toArray, List.set_cons_zero, List.set_cons_succ]
  refine AnyBut.one (i := 5) (by as_aux_lemma => kernel_rfl) rfl (fun K hK => ?_)
  go_simp
  go_at_call 50
  refine (at_any of n cap og oc pt ob _ h1 hof hn (ha.old hbd)).mono ?_
  rintro e w1 ⟨rfl, rfl⟩
  refine hK.out _ _ (hSof _ hr) (fun hHeld => ?_)
  clear hK K
  try simp only [Act.put, List.setIfInBounds_toArray, List.set_cons_zero, List.set_cons_succ]
  refine AnyBut.one (i := 9) (by as_aux_lemma => kernel_rfl) rfl (fun K hK => ?_)
  go_simp
  go_at_call 50
  refine (at_any ix n cap og oc pt ob _ h2 hix hn (ha.old hbd)).mono ?_
  rintro e w1 ⟨rfl, rfl⟩
  refine hK.out _ _ (hSof _ hr) (fun hHeld => ?_)
  clear hK K
  try simp only [Act.put, List.setIfInBounds_toArray, List.set_cons_zero, List.set_cons_succ]
  refine AnyBut.take (i := 10) (v := ?_) rfl (by as_aux_lemma => kernel_rfl) (by as_aux_lemma => kernel_rfl) (by as_aux_lemma => kernel_rfl) (by as_aux_lemma => kernel_rfl) (fun _ _ _ h => h) hHeld (by rfl) ?_ ?_
  rotate_left
  focus (intro w hSw; (try dsimp only at hSw); go_simp <;> with_reducible rfl)
  try simp only [Act.put, List.setIfInBounds_toArray, List.set_cons_zero, List.set_cons_succ]
  refine AnyBut.take (i := 11) (v := ?_) rfl (by as_aux_lemma => kernel_rfl) (by as_aux_lemma => kernel_rfl) (by as_aux_lemma => kernel_rfl) (by as_aux_lemma => kernel_rfl) (fun _ _ _ h => h) hHeld (by rfl) ?_ ?_
  rotate_left
  focus (intro w hSw; (try dsimp only at hSw); go_simp <;> with_reducible rfl)
  try simp only [Act.put, List.setIfInBounds_toArray, List.set_cons_zero, List.set_cons_succ]
  refine AnyBut.one (i := 12) (by as_aux_lemma => kernel_rfl) rfl (fun K hK => ?_)
  go_simp
  refine hK.out _ _ (hSof _ (Blk.newAt _ _ _ (by simp)).drew) (fun hHeld => ?_)
  clear hK K
  try simp only [Act.put, List.setIfInBounds_toArray, List.set_cons_zero, List.set_cons_succ]
  refine AnyBut.take (i := 13) (v := ?_) rfl (by as_aux_lemma => kernel_rfl) (by as_aux_lemma => kernel_rfl) (by as_aux_lemma => kernel_rfl) (by as_aux_lemma => kernel_rfl) (fun _ _ _ h => h) hHeld (by rfl) ?_ ?_
  rotate_left
  focus (intro w hSw; (try dsimp only at hSw); go_simp <;> with_reducible rfl)
  try simp only [Act.put, List.setIfInBounds_toArray, List.set_cons_zero, List.set_cons_succ]
  refine AnyBut.take (i := 14) (v := ?_) rfl (by as_aux_lemma => kernel_rfl) (by as_aux_lemma => kernel_rfl) (by as_aux_lemma => kernel_rfl) (by as_aux_lemma => kernel_rfl) (fun _ _ _ h => h) hHeld (by rfl) ?_ ?_
  rotate_left
  focus (intro w hSw; (try dsimp only at hSw); go_simp <;> with_reducible rfl)
  try simp only [Act.put, List.setIfInBounds_toArray, List.set_cons_zero, List.set_cons_succ]
  refine AnyBut.last (by as_aux_lemma => kernel_rfl) rfl (by as_aux_lemma => kernel_rfl) (fun K hK => ?_)
  go_simp
  refine hK.out _ _ ?_
  clear hK K
  try simp only [Act.put, List.setIfInBounds_toArray, List.set_cons_zero, List.set_cons_succ]
  go_wp2_with fail
  go_end0
  exact ⟨rfl, _, grown_set3, (((hb.set 1 _).set 0 _).alloc _).drew, .arr⟩
end
#print axioms fill_str
end Go.Proofs.YtfilbgmbmlmdbaaGreatDoor
