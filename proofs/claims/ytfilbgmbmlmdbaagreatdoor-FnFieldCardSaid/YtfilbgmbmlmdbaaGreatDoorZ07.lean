/- The thin package's own filling in of parts: arrays, structs, enumerations. -/
import Derived.Test.YtfilbgmbmlmdbaaGreatDoorZ06
set_option linter.unusedSectionVars false
set_option linter.unusedSimpArgs false
set_option linter.unusedVariables false
set_option maxRecDepth 1000000
set_option maxHeartbeats 16000000
namespace Go.Proofs.YtfilbgmbmlmdbaaGreatDoor
open Go.RowKit
theorem grown_of {w w1 : World} (h : Below w.heap.size w w1) {b i : Nat} {u : Value} : w.grownBy (w1.setCell ⟨b, i, none⟩ u) (some b) :=
 ⟨h.os, h.tape, h.output, by simpa using h.size, fun k hk hne => by rw [Below.heap_setCell _ _ _ _ (fun e => hne (by rw [e]))]; exact h.block k hk⟩
theorem grown_set3 {w : World} {o : Obj} {b i j : Nat} {u v : Value} : w.grownBy ((((w.setCell ⟨b, i, none⟩ u).setCell ⟨b, j, none⟩ v).alloc o).drew) (some b) :=
 ⟨rfl, rfl, rfl, by show w.heap.size ≤ (World.alloc _ _).heap.size; simp, fun k hk hne => by
  show (World.alloc _ o).heap[k]? = _
  rw [Below.heap_alloc _ o k (by simpa using hk), Below.heap_setCell _ _ _ _ (fun e => hne (by rw [e])), Below.heap_setCell _ _ _ _ (fun e => hne (by rw [e]))]⟩
theorem evalParts : ElemOk Tryz.prog 148 131 2 24 := .of (z := .agg #[.string ⟨#[]⟩, .int .u64 0]) Tryz.underlying148 (by kernel_rfl) (by rfl) (by decide)
section
variable (w : World) (nm : ByteArray) (sz en fl : Int) (of ix : Nat) (mv : Value) (q n cap og oc b lo : Nat) (ys : List Value) (pt : Nat → TypeId) (ob : Nat → Nat) (ha : AtSt w n cap og oc pt ob) (hn : n ≤ 1000000) (hlo : lo ≤ w.heap.size)
 (hof : of ≤ n) (hix : ix ≤ n) (hbo : b ≠ og ∧ b ≠ oc)
include ha hn hlo hof hix hbo in
theorem fill_str (hb : Blk w b #[.string nm, .int .u32 sz, .slice none 0 0, .slice none 0 0] 194) (ho : w.ownsRow 0 74 5 mv q ys) (hq : q ≤ 1000)
  (hm : ∀ j, j < q → ∃ (nm : ByteArray) (o : Nat) (a b v : Int), PRow ys j nm (.int .i64 o) a b v ∧ (1 ≤ o ∧ o ≤ n) ∧ (0 ≤ a ∧ a < 4294967296) ∧ (0 ≤ b ∧ b < 4294967296)) :
  Calls Tryz.prog 51 #[.iface 162 (.pointer (some ⟨b, 0, none⟩)), .agg #[.int .i64 4, .string nm, .int .i64 sz, .int .i64 en, .int .i64 fl, .int .i64 of, .int .i64 ix, mv], .func (.func 50) #[] #[.pointer (some ⟨oc, 0, none⟩)]] w
   fun e w' => e = .returned (.tuple #[]) ∧ FillPost w b lo 194 pt ob nm sz en fl of ix q ys 4 w' := by
 have nPointer := taNoPointer 162 (by decide)
 have nArray := taNoArray 162 (by decide)
 have y0 := @ta_yes _ _ Tryz.underlying162
 have hbl := hb.lt
 obtain ⟨ma, mcap, rfl⟩ := own_slice ho
 have hb1 : Below w.heap.size w (w.alloc (.cells #[.int .i64 4, .string nm, .int .i64 sz, .int .i64 en, .int .i64 fl, .int .i64 of, .int .i64 ix, Value.slice ma q mcap] 72)) := (Below.refl _ _).alloc (Nat.le_refl _) _
 go_enter Tryz.func51, Tryz.ntmps51
 go_wp2_with fail
 refine (members_any _ _ q n cap og oc ys pt ob (ha.old hb1) hn (ho.alloc _) hq hm).mono ?_
 rintro e w1 ⟨v, xs, rfl, hown, hrows, hb2⟩
 have hbk := (hb.alloc _).old hb2
 have hbf := hbk.free 2
 have hbc := hbk.cell 2
 simp only [List.getElem?_toArray, List.getElem?_cons_zero, List.getElem?_cons_succ] at hbc
 obtain ⟨va, vcap, rfl⟩ := own_slice hown
 go_wp2_with fail
 go_end0
 refine ⟨rfl, _, grown_of (hb1.trans (hb2.mono hb1.size)), hbk.set 2 _, .str (.inl rfl) ?_ hrows⟩
 exact ownsRow_base (ownsRow_setCell hown (fun x => by have := (hown.lt _ x.symm).1; simp at this; omega) _) (by simp; omega)
include ha hn hlo hof hix hbo in
theorem fill_uni (hb : Blk w b #[.string nm, .int .u32 sz, .slice none 0 0, .slice none 0 0] 195) (ho : w.ownsRow 0 74 5 mv q ys) (hq : q ≤ 1000)
  (hm : ∀ j, j < q → ∃ (nm : ByteArray) (o : Nat) (a b v : Int), PRow ys j nm (.int .i64 o) a b v ∧ (1 ≤ o ∧ o ≤ n) ∧ (0 ≤ a ∧ a < 4294967296) ∧ (0 ≤ b ∧ b < 4294967296)) :
  Calls Tryz.prog 51 #[.iface 163 (.pointer (some ⟨b, 0, none⟩)), .agg #[.int .i64 5, .string nm, .int .i64 sz, .int .i64 en, .int .i64 fl, .int .i64 of, .int .i64 ix, mv], .func (.func 50) #[] #[.pointer (some ⟨oc, 0, none⟩)]] w
   fun e w' => e = .returned (.tuple #[]) ∧ FillPost w b lo 195 pt ob nm sz en fl of ix q ys 5 w' := by
 have nPointer := taNoPointer 163 (by decide)
 have nArray := taNoArray 163 (by decide)
 have nStruct := taNoStruct 163 (by decide)
 have y0 := @ta_yes _ _ Tryz.underlying163
 have hbl := hb.lt
 obtain ⟨ma, mcap, rfl⟩ := own_slice ho
 have hb1 : Below w.heap.size w (w.alloc (.cells #[.int .i64 5, .string nm, .int .i64 sz, .int .i64 en, .int .i64 fl, .int .i64 of, .int .i64 ix, Value.slice ma q mcap] 72)) := (Below.refl _ _).alloc (Nat.le_refl _) _
 go_enter Tryz.func51, Tryz.ntmps51
 go_wp2_with fail
 refine (members_any _ _ q n cap og oc ys pt ob (ha.old hb1) hn (ho.alloc _) hq hm).mono ?_
 rintro e w1 ⟨v, xs, rfl, hown, hrows, hb2⟩
 have hbk := (hb.alloc _).old hb2
 have hbf := hbk.free 2
 have hbc := hbk.cell 2
 simp only [List.getElem?_toArray, List.getElem?_cons_zero, List.getElem?_cons_succ] at hbc
 obtain ⟨va, vcap, rfl⟩ := own_slice hown
 go_wp2_with fail
 go_end0
 refine ⟨rfl, _, grown_of (hb1.trans (hb2.mono hb1.size)), hbk.set 2 _, .str (.inr rfl) ?_ hrows⟩
 exact ownsRow_base (ownsRow_setCell hown (fun x => by have := (hown.lt _ x.symm).1; simp at this; omega) _) (by simp; omega)
include ha hn hlo hof hix hbo in
theorem fill_arr (hb : Blk w b #[.nilIface, .nilIface, .int .u32 sz] 169) (h1 : 1 ≤ of) (h2 : 1 ≤ ix) :
  Calls Tryz.prog 51 #[.iface 167 (.pointer (some ⟨b, 0, none⟩)), .agg #[.int .i64 3, .string nm, .int .i64 sz, .int .i64 en, .int .i64 fl, .int .i64 of, .int .i64 ix, mv], .func (.func 50) #[] #[.pointer (some ⟨oc, 0, none⟩)]] w
   fun e w' => e = .returned (.tuple #[]) ∧ FillPost w b lo 169 pt ob nm sz en fl of ix q ys 3 w' := by
 have nPointer := taNoPointer 167 (by decide)
 have y0 := @ta_yes _ _ Tryz.underlying167
 have hbl := hb.lt
 have hbd : Below w.heap.size w (w.alloc (.cells #[.int .i64 3, .string nm, .int .i64 sz, .int .i64 en, .int .i64 fl, .int .i64 of, .int .i64 ix, mv] 72)).drew := ((Below.refl _ _).alloc (Nat.le_refl _) _).drew
 have hbf0 := hb.free 0
 have hbf1 := hb.free 1
 have hbc0 := hb.cell 0
 have hbc1 := hb.cell 1
 have hr : Blk (w.alloc (.cells #[.int .i64 3, .string nm, .int .i64 sz, .int .i64 en, .int .i64 fl, .int .i64 of, .int .i64 ix, mv] 72)).drew w.heap.size _ _ := (Blk.new _ _ _).drew
 have hr5 := hr.cell 5
 have hr6 := hr.cell 6
 simp only [List.getElem?_toArray, List.getElem?_cons_zero, List.getElem?_cons_succ] at hbc0 hbc1 hr5 hr6
 go_enter Tryz.func51, Tryz.ntmps51
 go_upto_region 7 with fail
 have hSof : ∀ w', Blk w' w.heap.size #[.int .i64 3, .string nm, .int .i64 sz, .int .i64 en, .int .i64 fl, .int .i64 of, .int .i64 ix, mv] 72 → w'.cell? ⟨w.heap.size, 5, none⟩ = some (.int .i64 of) ∧ w'.cell? ⟨w.heap.size, 6, none⟩ = some (.int .i64 ix) := fun w' h => ⟨h.cell 5, h.cell 6⟩
 refine AnyBut.start (S := (fun w' => w'.cell? ⟨w.heap.size, 5, none⟩ = some (.int .i64 of) ∧ w'.cell? ⟨w.heap.size, 6, none⟩ = some (.int .i64 ix))) (t := 15) (by as_aux_lemma => kernel_rfl) (hSof _ hr) (fun hHeld => ?_)
 refine AnyBut.tk (i := 0) (v := ?_) rfl (by as_aux_lemma => kernel_rfl) (fun _ _ _ h => h) hHeld (by rfl) ?_ ?_
 rotate_left
 focus (intro w hSw; (try dsimp only at hSw); go_simp <;> with_reducible rfl)
 try simp only [Act.put, zl4, zl5, zl6]
 refine AnyBut.tk (i := 1) (v := ?_) rfl (by as_aux_lemma => kernel_rfl) (fun _ _ _ h => h) hHeld (by rfl) ?_ ?_
 rotate_left
 focus (intro w hSw; (try dsimp only at hSw); go_simp <;> with_reducible rfl)
 try simp only [Act.put, zl4, zl5, zl6]
 refine AnyBut.tk (i := 2) (v := ?_) rfl (by as_aux_lemma => kernel_rfl) (fun _ _ _ h => h) hHeld (by rfl) ?_ ?_
 rotate_left
 focus (intro w hSw; (try dsimp only at hSw); go_simp <;> with_reducible rfl)
 try simp only [Act.put, zl4, zl5, zl6]
 refine AnyBut.tk (i := 3) (v := ?_) rfl (by as_aux_lemma => kernel_rfl) (fun _ _ _ h => h) hHeld (by rfl) ?_ ?_
 rotate_left
 focus (intro w hSw; (try dsimp only at hSw); go_simp <;> with_reducible rfl)
 try simp only [Act.put, zl4, zl5, zl6]
 refine AnyBut.tk (i := 4) (v := ?_) rfl (by as_aux_lemma => kernel_rfl) (fun _ _ _ h => h) hHeld (by rfl) ?_ ?_
 rotate_left
 focus (intro w hSw; (try dsimp only at hSw); go_simp <;> with_reducible rfl)
 try simp only [Act.put, zl4, zl5, zl6]
 refine AnyBut.tk (i := 6) (v := ?_) rfl (by as_aux_lemma => kernel_rfl) (fun _ _ _ h => h) hHeld (by rfl) ?_ ?_
 rotate_left
 focus (intro w hSw; (try dsimp only at hSw); go_simp <;> with_reducible rfl)
 try simp only [Act.put, zl4, zl5, zl6]
 refine AnyBut.tk (i := 7) (v := ?_) rfl (by as_aux_lemma => kernel_rfl) (fun _ _ _ h => h) hHeld (by rfl) ?_ ?_
 rotate_left
 focus (intro w hSw; (try dsimp only at hSw); go_simp <;> with_reducible rfl)
 try simp only [Act.put, zl4, zl5, zl6]
 refine AnyBut.tk (i := 8) (v := ?_) rfl (by as_aux_lemma => kernel_rfl) (fun _ _ _ h => h) hHeld (by rfl) ?_ ?_
 rotate_left
 focus (intro w hSw; (try dsimp only at hSw); go_simp <;> with_reducible rfl)
 try simp only [Act.put, zl4, zl5, zl6]
 refine AnyBut.one (i := 5) (by as_aux_lemma => kernel_rfl) rfl (fun K hK => ?_)
 go_simp
 go_at_call 50
 refine (at_any of n cap og oc pt ob _ h1 hof hn (ha.old hbd)).mono ?_
 rintro e w1 ⟨rfl, rfl⟩
 refine hK.out _ _ (hSof _ hr) (fun hHeld => ?_)
 clear hK K
 try simp only [Act.put, zl4, zl5, zl6]
 refine AnyBut.one (i := 9) (by as_aux_lemma => kernel_rfl) rfl (fun K hK => ?_)
 go_simp
 go_at_call 50
 refine (at_any ix n cap og oc pt ob _ h2 hix hn (ha.old hbd)).mono ?_
 rintro e w1 ⟨rfl, rfl⟩
 refine hK.out _ _ (hSof _ hr) (fun hHeld => ?_)
 clear hK K
 try simp only [Act.put, zl4, zl5, zl6]
 refine AnyBut.tk (i := 10) (v := ?_) rfl (by as_aux_lemma => kernel_rfl) (fun _ _ _ h => h) hHeld (by rfl) ?_ ?_
 rotate_left
 focus (intro w hSw; (try dsimp only at hSw); go_simp <;> with_reducible rfl)
 try simp only [Act.put, zl4, zl5, zl6]
 refine AnyBut.tk (i := 11) (v := ?_) rfl (by as_aux_lemma => kernel_rfl) (fun _ _ _ h => h) hHeld (by rfl) ?_ ?_
 rotate_left
 focus (intro w hSw; (try dsimp only at hSw); go_simp <;> with_reducible rfl)
 try simp only [Act.put, zl4, zl5, zl6]
 refine AnyBut.one (i := 12) (by as_aux_lemma => kernel_rfl) rfl (fun K hK => ?_)
 go_simp
 refine hK.out _ _ (hSof _ (Blk.newAt _ _ _ (by simp)).drew) (fun hHeld => ?_)
 clear hK K
 try simp only [Act.put, zl4, zl5, zl6]
 refine AnyBut.tk (i := 13) (v := ?_) rfl (by as_aux_lemma => kernel_rfl) (fun _ _ _ h => h) hHeld (by rfl) ?_ ?_
 rotate_left
 focus (intro w hSw; (try dsimp only at hSw); go_simp <;> with_reducible rfl)
 try simp only [Act.put, zl4, zl5, zl6]
 refine AnyBut.tk (i := 14) (v := ?_) rfl (by as_aux_lemma => kernel_rfl) (fun _ _ _ h => h) hHeld (by rfl) ?_ ?_
 rotate_left
 focus (intro w hSw; (try dsimp only at hSw); go_simp <;> with_reducible rfl)
 try simp only [Act.put, zl4, zl5, zl6]
 refine AnyBut.last (by as_aux_lemma => kernel_rfl) rfl (by as_aux_lemma => kernel_rfl) (fun K hK => ?_)
 go_simp
 refine hK.out _ _ ?_
 clear hK K
 try simp only [Act.put, zl4, zl5, zl6]
 go_wp2_with fail
 go_end0
 exact ⟨rfl, _, grown_set3, (((hb.set 1 _).set 0 _).alloc _).drew, .arr⟩
end
theorem ERows.push {ys xs : List Value} {k : Nat} (h : ERows ys xs k) (hl : xs.length = k * 2) {nm : ByteArray} {o : Value} {a b v : Int} (hp : PRow ys k nm o a b v) : ERows ys (xs ++ [.string nm, .int .u64 (IntKind.u64.wrap v)]) (k + 1) := by
 intro j hj
 by_cases h1 : j < k
 ·obtain ⟨nm, o, a, b, v, h2, h3, h4⟩ := h j h1
  exact ⟨nm, o, a, b, v, h2, by rw [List.getElem?_append_left (by omega)]; exact h3, by rw [List.getElem?_append_left (by omega)]; exact h4⟩
 ·obtain rfl : j = k := by omega
  refine ⟨nm, o, a, b, v, hp, ?_, ?_⟩
  ·rw [List.getElem?_append_right (by omega), show 2 * j - xs.length = 0 by omega]; rfl
  ·rw [List.getElem?_append_right (by omega), show 2 * j + 1 - xs.length = 1 by omega]; rfl
section
variable (w : World) (nm : ByteArray) (sz en fl : Int) (of ix : Nat) (mv : Value) (q n cap og oc b lo : Nat) (ys : List Value) (pt : Nat → TypeId) (ob : Nat → Nat) (ha : AtSt w n cap og oc pt ob) (hn : n ≤ 1000000) (hlo : lo ≤ w.heap.size)
 (hof : of ≤ n) (hix : ix ≤ n) (hbo : b ≠ og ∧ b ≠ oc)
include hlo in
theorem fill_enm (hb : Blk w b #[.string nm, .int .u32 sz, .bool (fl == 1), .slice none 0 0] 150) (ho : w.ownsRow 0 74 5 mv q ys) (hq : q ≤ 1000) (hmb : mv.ownBlock ≠ some b)
  (hm : ∀ j, j < q → ∃ (nm : ByteArray) (o : Nat) (a b v : Int), PRow ys j nm (.int .i64 o) a b v ∧ o ≤ n ∧ (0 ≤ a ∧ a < 4294967296) ∧ (0 ≤ b ∧ b < 4294967296)) :
  Calls Tryz.prog 51 #[.iface 144 (.pointer (some ⟨b, 0, none⟩)), .agg #[.int .i64 6, .string nm, .int .i64 sz, .int .i64 en, .int .i64 fl, .int .i64 of, .int .i64 ix, mv], .func (.func 50) #[] #[.pointer (some ⟨oc, 0, none⟩)]] w
   fun e w' => e = .returned (.tuple #[]) ∧ FillPost w b lo 150 pt ob nm sz en fl of ix q ys 6 w' := by
 have nPointer := taNoPointer 144 (by decide)
 have nArray := taNoArray 144 (by decide)
 have nStruct := taNoStruct 144 (by decide)
 have nUnion := taNoUnion 144 (by decide)
 have y0 := @ta_yes _ _ Tryz.underlying144
 have hbl := hb.lt
 obtain ⟨ma, mcap, rfl⟩ := own_slice ho
 go_enter Tryz.func51, Tryz.ntmps51
 go_wp2_with fail
 go_loopg [80] q (fun gk s80 wr => ∃ (j : Nat) (v : Value) (xs : List Value), j ≤ q ∧ q - j ≤ gk ∧ s80 = .int .i64 j ∧ w.grownBy wr (some b) ∧ Blk wr b #[.string nm, .int .u32 sz, .bool (fl == 1), v] 150 ∧ wr.ownsRow w.heap.size 131 2 v j xs ∧ ERows ys xs j)
 case atStart => exact ⟨0, _, [], Nat.zero_le _, Nat.le_refl _, rfl, ⟨rfl, rfl, rfl, by simp, fun k hk _ => Below.heap_alloc w _ k hk⟩, hb.alloc _, World.ownsRow_nil _ _ _ _, fun j h => by omega⟩
 case round =>
  obtain ⟨j, v, xs, hj, hgk, rfl, hgw, hbr, hown, hrows⟩ := hrel
  by_cases hlt : j < q
  ·obtain ⟨nm2, o2, a2, b2, v2, hrow, -⟩ := hm j hlt
   obtain ⟨mg, mcap', hme, hmg⟩ := own_form ho (by omega)
   simp only [Value.slice.injEq] at hme
   obtain ⟨rfl, -, rfl⟩ := hme
   have hor : wr.ownsRow 0 74 5 (.slice (some ⟨mg, 0, none⟩) q mcap) q ys := ownsRow_of ho fun x hx hl => hgw.block x hl (fun e => hmb (by rw [hx, e]))
   obtain ⟨q0, q1, q2, q3, q4⟩ := row_cells hor hrow
   have hmg2 : mg < wr.heap.size := Nat.lt_of_lt_of_le hmg hgw.size
   have hgs := hgw.size
   have hbl2 : b < wr.heap.size := hbr.lt
   go_upto_region 19 with fail
   have hb8' : Below wr.heap.size wr (wr.alloc (.cells #[.string nm2, .int .i64 o2, .int .i64 a2, .int .i64 b2, .int .i64 v2] 74)).drew := ((Below.refl _ _).alloc (Nat.le_refl _) _).drew
   have hp8 : Blk (wr.alloc (.cells #[.string nm2, .int .i64 o2, .int .i64 a2, .int .i64 b2, .int .i64 v2] 74)).drew wr.heap.size _ _ := (Blk.new _ _ _).drew
   have hb8 := hbr.old hb8'
   have hown8 : (wr.alloc (.cells #[.string nm2, .int .i64 o2, .int .i64 a2, .int .i64 b2, .int .i64 v2] 74)).drew.ownsRow w.heap.size 131 2 v j xs := ownsRow_of hown fun g _ hl => hb8'.block g hl
   have hSof : ∀ w', Blk w' b #[.string nm, .int .u32 sz, .bool (fl == 1), v] 150 → Blk w' wr.heap.size #[.string nm2, .int .i64 o2, .int .i64 a2, .int .i64 b2, .int .i64 v2] 74 → w'.cell? ⟨b, 3, none⟩ = some v ∧ w'.cell? ⟨wr.heap.size, 0, none⟩ = some (.string nm2) ∧ w'.cell? ⟨wr.heap.size, 4, none⟩ = some (.int .i64 v2) :=
    fun w' h1 h2 => ⟨h1.cell 3, h2.cell 0, h2.cell 4⟩
   refine AnyBut.start (S := (fun w' => w'.cell? ⟨b, 3, none⟩ = some v ∧ w'.cell? ⟨wr.heap.size, 0, none⟩ = some (.string nm2) ∧ w'.cell? ⟨wr.heap.size, 4, none⟩ = some (.int .i64 v2))) (t := 15) (by as_aux_lemma => kernel_rfl) (hSof _ hb8 hp8) (fun hHeld => ?_)
   refine AnyBut.tk (i := 0) (v := ?_) rfl (by as_aux_lemma => kernel_rfl) (fun _ _ _ h => h) hHeld (by rfl) ?_ ?_
   rotate_left
   focus (intro w hSw; (try dsimp only at hSw); go_simp <;> with_reducible rfl)
   try simp only [Act.put, zl4, zl5, zl6]
   refine AnyBut.tk (i := 1) (v := ?_) rfl (by as_aux_lemma => kernel_rfl) (fun _ _ _ h => h) hHeld (by rfl) ?_ ?_
   rotate_left
   focus (intro w hSw; (try dsimp only at hSw); go_simp <;> with_reducible rfl)
   try simp only [Act.put, zl4, zl5, zl6]
   refine AnyBut.tk (i := 2) (v := ?_) rfl (by as_aux_lemma => kernel_rfl) (fun _ _ _ h => h) hHeld (by rfl) ?_ ?_
   rotate_left
   focus (intro w hSw; (try dsimp only at hSw); go_simp <;> with_reducible rfl)
   try simp only [Act.put, zl4, zl5, zl6]
   refine AnyBut.tk (i := 3) (v := ?_) rfl (by as_aux_lemma => kernel_rfl) (fun _ _ _ h => h) hHeld (by rfl) ?_ ?_
   rotate_left
   focus (intro w hSw; (try dsimp only at hSw); go_simp <;> with_reducible rfl)
   try simp only [Act.put, zl4, zl5, zl6]
   refine AnyBut.tk (i := 4) (v := ?_) rfl (by as_aux_lemma => kernel_rfl) (fun _ _ _ h => h) hHeld (by rfl) ?_ ?_
   rotate_left
   focus (intro w hSw; (try dsimp only at hSw); go_simp <;> with_reducible rfl)
   try simp only [Act.put, zl4, zl5, zl6]
   refine AnyBut.tk (i := 5) (v := ?_) rfl (by as_aux_lemma => kernel_rfl) (fun _ _ _ h => h) hHeld (by rfl) ?_ ?_
   rotate_left
   focus (intro w hSw; (try dsimp only at hSw); go_simp <;> with_reducible rfl)
   try simp only [Act.put, zl4, zl5, zl6]
   refine AnyBut.tk (i := 6) (v := ?_) rfl (by as_aux_lemma => kernel_rfl) (fun _ _ _ h => h) hHeld (by rfl) ?_ ?_
   rotate_left
   focus (intro w hSw; (try dsimp only at hSw); go_simp <;> with_reducible rfl)
   try simp only [Act.put, zl4, zl5, zl6]
   refine AnyBut.tk (i := 7) (v := ?_) rfl (by as_aux_lemma => kernel_rfl) (fun _ _ _ h => h) hHeld (by rfl) ?_ ?_
   rotate_left
   focus (intro w hSw; (try dsimp only at hSw); go_simp <;> with_reducible rfl)
   try simp only [Act.put, zl4, zl5, zl6]
   refine AnyBut.tk (i := 8) (v := ?_) rfl (by as_aux_lemma => kernel_rfl) (fun _ _ _ h => h) hHeld (by rfl) ?_ ?_
   rotate_left
   focus (intro w hSw; (try dsimp only at hSw); go_simp <;> with_reducible rfl)
   try simp only [Act.put, zl4, zl5, zl6]
   refine AnyBut.tk (i := 9) (v := ?_) rfl (by as_aux_lemma => kernel_rfl) (fun _ _ _ h => h) hHeld (by rfl) ?_ ?_
   rotate_left
   focus (intro w hSw; (try dsimp only at hSw); go_simp <;> with_reducible rfl)
   try simp only [Act.put, zl4, zl5, zl6]
   refine AnyBut.tk (i := 10) (v := ?_) rfl (by as_aux_lemma => kernel_rfl) (fun _ _ _ h => h) hHeld (by rfl) ?_ ?_
   rotate_left
   focus (intro w hSw; (try dsimp only at hSw); go_simp <;> with_reducible rfl)
   try simp only [Act.put, zl4, zl5, zl6]
   refine AnyBut.one (i := 11) (by as_aux_lemma => kernel_rfl) rfl (fun K hK => ?_)
   go_simp
   refine hK.out _ _ (hSof _ (hb8.alloc _) (hp8.alloc _)) (fun hHeld => ?_)
   clear hK K
   try simp only [Act.put, zl4, zl5, zl6]
   refine AnyBut.one (i := 12) (by as_aux_lemma => kernel_rfl) rfl (fun K hK => ?_)
   refine step_app evalParts (.tmp 88) (.tmp 95) rfl rfl w.heap.size v j xs rfl (hown8.alloc _) _ 1 1 _ rfl (Blk.newAt _ _ _ (by simp)).drew rfl rfl (by decide) ?_ (by omega) (by unfold maxLen; omega) (by simp; omega)
   intro g1 cap1 w10 ha10
   have hb10 := (hbr.alloc _ |>.alloc _ |>.drew).grown ha10.2.1 (fun x => by have := (hown.lt _ x.symm).1; omega)
   have hp10 := (hp8.alloc _).grown ha10.2.1 (fun x => by have := (hown.lt _ x.symm).2; omega)
   have z3 := hb10.cell 3
   have zf3 := hb10.free 3
   simp only [List.getElem?_toArray, List.getElem?_cons_zero, List.getElem?_cons_succ] at z3
   refine hK.out _ _ (hSof _ hb10 hp10) (fun hHeld => ?_)
   clear hK K
   try simp only [Act.put, zl4, zl5, zl6]
   refine AnyBut.tk (i := 13) (v := ?_) rfl (by as_aux_lemma => kernel_rfl) (fun _ _ _ h => h) hHeld (by rfl) ?_ ?_
   rotate_left
   focus (intro w hSw; (try dsimp only at hSw); go_simp <;> with_reducible rfl)
   try simp only [Act.put, zl4, zl5, zl6]
   refine AnyBut.tk (i := 14) (v := ?_) rfl (by as_aux_lemma => kernel_rfl) (fun _ _ _ h => h) hHeld (by rfl) ?_ ?_
   rotate_left
   focus (intro w hSw; (try dsimp only at hSw); go_simp <;> with_reducible rfl)
   try simp only [Act.put, zl4, zl5, zl6]
   refine AnyBut.last (by as_aux_lemma => kernel_rfl) rfl (by as_aux_lemma => kernel_rfl) (fun K hK => ?_)
   go_simp
   refine hK.out _ _ ?_
   clear hK K
   try simp only [Act.put, zl4, zl5, zl6]
   go_wp2_with fail
   have hgo := hb8'.size
   have hgr10 := ha10.2.1
   have hg1 := (ha10.1.lt g1 rfl).1
   go_roundg (q - (j + 1))
   case measure => omega
   case rel =>
    refine ⟨j + 1, _, _, hlt, Nat.le_refl _, by go_num, ⟨hgr10.os.trans hgw.os, hgr10.tape.trans hgw.tape, hgr10.output.trans hgw.output, ?_, fun k hk hne => ?_⟩, hb10.set 3 _, ownsRow_setCell ha10.1 (fun x => ?_) _, hrows.push hown.1 hrow⟩
    ·have := hgr10.size
     simp at this ⊢
     have h2 : (World.alloc (World.alloc wr (.cells #[.string nm2, .int .i64 o2, .int .i64 a2, .int .i64 b2, .int .i64 v2] 74)) (.cells #[.string nm2, .int .u64 (IntKind.u64.wrap v2)] 131)).heap.size ≤ w10.heap.size := hgr10.size
     simp at h2
     omega
    ·rw [Below.heap_setCell _ _ _ _ (fun e => hne (by rw [e]))]
     have h3 : w10.heap[k]? = (World.alloc (World.alloc wr (.cells #[.string nm2, .int .i64 o2, .int .i64 a2, .int .i64 b2, .int .i64 v2] 74)) (.cells #[.string nm2, .int .u64 (IntKind.u64.wrap v2)] 131)).heap[k]? :=
      hgr10.block k (by show k < (World.alloc (World.alloc wr _) _).heap.size; simp; omega) (fun x => by have := (hown.lt k x.symm).1; omega)
     rw [h3, Below.heap_alloc _ _ k (by simp; omega), Below.heap_alloc wr _ k (by omega)]
     exact hgw.block k hk hne
    ·have e : b = g1 := by simpa [Value.ownBlock, eq_comm] using x
     omega
  ·obtain rfl : j = q := by omega
   go_wp2_with fail
   go_end0
   exact ⟨rfl, _, hgw, hbr, .enm (ownsRow_base hown hlo) hrows⟩
end
structure RowD where
 k : Int
 nm : ByteArray
 sz : Int
 en : Int
 fl : Int
 of : Nat
 ix : Nat
 mv : Value
 q : Nat
 ys : List Value
abbrev FitsD (w : World) (D : Nat → Prop) (xs : List Value) (n i : Nat) (d : RowD) : Prop := RowFits w D xs n i d.k d.nm d.sz d.en d.fl d.of d.ix d.mv d.q d.ys
theorem Rows.data {w : World} {v : Value} {n : Nat} {xs : List Value} {D : Nat → Prop} (h : Rows w v n xs D) : ∃ f : Nat → RowD, ∀ i, i < n → FitsD w D xs n i (f i) := by
 classical
 have h' : ∀ i, ∃ d : RowD, i < n → FitsD w D xs n i d := fun i => by
  by_cases hi : i < n
  ·obtain ⟨k, nm, sz, en, fl, of, ix, mv, q, ys, hf⟩ := h.fits i hi
   exact ⟨⟨k, nm, sz, en, fl, of, ix, mv, q, ys⟩, fun _ => hf⟩
  ·exact ⟨⟨0, ⟨#[]⟩, 0, 0, 0, 0, 0, .nilIface, 0, []⟩, fun h => absurd h hi⟩
 exact ⟨fun i => Classical.choose (h' i), fun i => Classical.choose_spec (h' i)⟩
theorem lrow_cells {w : World} {base e n g cap i : Nat} {xs : List Value} {k : Int} {nm : ByteArray} {sz en fl of ix : Int} {mv : Value} (h : w.ownsRow base e 8 (.slice (some ⟨g, 0, none⟩) n cap) n xs) (l : LRow xs i k nm sz en fl of ix mv) :
  w.cell? ⟨g, i * 8, none⟩ = some (.int .i64 k) ∧ w.cell? ⟨g, i * 8 + 1, none⟩ = some (.string nm) ∧ w.cell? ⟨g, i * 8 + 2, none⟩ = some (.int .i64 sz) ∧ w.cell? ⟨g, i * 8 + 3, none⟩ = some (.int .i64 en) ∧ w.cell? ⟨g, i * 8 + 4, none⟩ = some (.int .i64 fl) ∧
   w.cell? ⟨g, i * 8 + 5, none⟩ = some (.int .i64 of) ∧ w.cell? ⟨g, i * 8 + 6, none⟩ = some (.int .i64 ix) ∧ w.cell? ⟨g, i * 8 + 7, none⟩ = some mv := by
 obtain ⟨h0, h1, h2, h3, h4, h5, h6, h7⟩ := l
 rw [Nat.mul_comm] at h0 h1 h2 h3 h4 h5 h6 h7
 exact ⟨own_cell h h0, own_cell h h1, own_cell h h2, own_cell h h3, own_cell h h4, own_cell h h5, own_cell h h6, own_cell h h7⟩
theorem kinds_at {w : World} {n g cap : Nat} {xs : List Value} {D : Nat → Prop} {f : Nat → RowD} (h : w.ownsRow 0 72 8 (.slice (some ⟨g, 0, none⟩) n cap) n xs) (hf : ∀ i, i < n → FitsD w D xs n i (f i)) : KindsAt w g n := fun i hi =>
 ⟨_, (lrow_cells h (hf i hi).row).1, fun e => by have := (hf i hi).kind; unfold KindOk at this; omega⟩
structure B1 (w : World) (n : Nat) (f : Nat → RowD) (og oc : Nat) (os : List Value) (pt : Nat → TypeId) (ob : Nat → Nat) (k : Nat) (wr : World) : Prop where
 old : Below w.heap.size w wr
 var : Blk wr oc #[.slice (some ⟨og, 0, none⟩) n n] 78
 own : wr.ownsRow w.heap.size 77 1 (.slice (some ⟨og, 0, none⟩) n n) n os
 has : ∀ i, i < k → os[i]? = some (.iface (pt (i + 1)) (.pointer (some ⟨ob (i + 1), 0, none⟩)))
 obj : ∀ i, i < k → ∃ cs ty, ObjC (f i).nm (f i).sz (f i).en (f i).fl (f i).k (pt (i + 1)) cs ty ∧ Blk wr (ob (i + 1)) cs ty ∧ w.heap.size ≤ ob (i + 1) ∧ ob (i + 1) ≠ og ∧ ob (i + 1) ≠ oc
 inj : ∀ i j, i < j → j < k → ob (i + 1) < ob (j + 1)
 lo : w.heap.size ≤ oc ∧ oc ≠ og
theorem B1.new {w wr w2 : World} {n : Nat} {f : Nat → RowD} {og oc : Nat} {os : List Value} {pt : Nat → TypeId} {ob : Nat → Nat} {k : Nat} (h : B1 w n f og oc os pt ob k wr) (hb : Below wr.heap.size wr w2) : B1 w n f og oc os pt ob k w2 :=
 ⟨h.old.trans (hb.mono h.old.size), h.var.old hb, ownsRow_of h.own fun g _ hl => hb.block g hl, h.has, fun i hi => by
  obtain ⟨cs, ty, h1, h2, h3⟩ := h.obj i hi
  exact ⟨cs, ty, h1, h2.old hb, h3⟩, h.inj, h.lo⟩
theorem B1.push {w wr w2 : World} {n : Nat} {f : Nat → RowD} {og oc : Nat} {os : List Value} {pt : Nat → TypeId} {ob : Nat → Nat} {k b : Nat} {p : TypeId} {cs : Array Value} {ty : TypeId} (h : B1 w n f og oc os pt ob k wr) (hk : k < n) (hb : Below wr.heap.size wr w2)
  (ho : ObjC (f k).nm (f k).sz (f k).en (f k).fl (f k).k p cs ty) (hbk : Blk w2 b cs ty) (hlo : wr.heap.size ≤ b) :
  B1 w n f og oc (os.set k (.iface p (.pointer (some ⟨b, 0, none⟩)))) (upd pt (k + 1) p) (upd ob (k + 1) b) (k + 1) (w2.setCell ⟨og, k, none⟩ (.iface p (.pointer (some ⟨b, 0, none⟩)))) := by
 have hn := h.new hb
 have hogl := (h.own.lt og rfl).2
 have hocl := h.var.lt
 have hog := (h.own.lt og rfl).1
 obtain ⟨hs1, -⟩ := hn.own.stored k (.iface p (.pointer (some ⟨b, 0, none⟩)))
 have hlen := h.own.1
 refine ⟨hn.old.setCell hog _, hn.var.other (by show oc ≠ og; exact h.lo.2) _, hs1, fun i hi => ?_, fun i hi => ?_, fun i j hij hj => ?_, h.lo⟩
 ·by_cases hik : i < k
  ·rw [List.getElem?_set_ne (by omega), upd_other _ _ (by omega), upd_other _ _ (by omega)]; exact hn.has i hik
  ·obtain rfl : i = k := by omega
   rw [upd_same, upd_same, List.getElem?_set_self (by omega)]
 ·by_cases hik : i < k
  ·rw [upd_other _ _ (by omega), upd_other _ _ (by omega)]
   obtain ⟨cs', ty', h1, h2, h3, h4, h5⟩ := hn.obj i hik
   exact ⟨cs', ty', h1, h2.other (by show ob (i + 1) ≠ og; exact h4) _, h3, h4, h5⟩
  ·obtain rfl : i = k := by omega
   rw [upd_same, upd_same]
   have := h.old.size
   exact ⟨cs, ty, ho, hbk.other (by show b ≠ og; omega) _, by omega, by omega, by omega⟩
 ·by_cases hjk : j < k
  ·rw [upd_other _ _ (by omega), upd_other _ _ (by omega)]; exact h.inj i j hij hjk
  ·obtain rfl : j = k := by omega
   rw [upd_same, upd_other _ _ (by omega)]
   obtain ⟨_, _, _, h2, _⟩ := h.obj i hij
   have := h2.lt
   omega
structure B2 (w : World) (n : Nat) (f : Nat → RowD) (og oc lo : Nat) (os : List Value) (pt : Nat → TypeId) (ob : Nat → Nat) (k : Nat) (wr : World) : Prop where
 old : Below w.heap.size w wr
 var : Blk wr oc #[.slice (some ⟨og, 0, none⟩) n n] 78
 own : wr.ownsRow w.heap.size 77 1 (.slice (some ⟨og, 0, none⟩) n n) n os
 has : ∀ i, i < n → os[i]? = some (.iface (pt (i + 1)) (.pointer (some ⟨ob (i + 1), 0, none⟩)))
 full : ∀ i, i < k → ∃ cs cs0 ty, ObjC (f i).nm (f i).sz (f i).en (f i).fl (f i).k (pt (i + 1)) cs0 ty ∧ Blk wr (ob (i + 1)) cs ty ∧ FullC wr lo pt ob (f i).nm (f i).sz (f i).en (f i).fl (f i).of (f i).ix (f i).q (f i).ys (f i).k cs
 obj : ∀ i, k ≤ i → i < n → ∃ cs ty, ObjC (f i).nm (f i).sz (f i).en (f i).fl (f i).k (pt (i + 1)) cs ty ∧ Blk wr (ob (i + 1)) cs ty
 far : ∀ i, i < n → w.heap.size ≤ ob (i + 1) ∧ ob (i + 1) < lo ∧ ob (i + 1) ≠ og ∧ ob (i + 1) ≠ oc
 inj : ∀ i j, i < j → j < n → ob (i + 1) < ob (j + 1)
 lo : lo ≤ wr.heap.size ∧ w.heap.size ≤ oc ∧ oc ≠ og
theorem B2.start {w wr : World} {n : Nat} {f : Nat → RowD} {og oc : Nat} {os : List Value} {pt : Nat → TypeId} {ob : Nat → Nat} (h : B1 w n f og oc os pt ob n wr) : B2 w n f og oc wr.heap.size os pt ob 0 wr :=
 ⟨h.old, h.var, h.own, h.has, fun i hi => by omega, fun i _ hi => by
  obtain ⟨cs, ty, h1, h2, _⟩ := h.obj i hi
  exact ⟨cs, ty, h1, h2⟩, fun i hi => by
  obtain ⟨cs, ty, h1, h2, h3, h4, h5⟩ := h.obj i hi
  exact ⟨h3, h2.lt, h4, h5⟩, h.inj, Nat.le_refl _, h.lo⟩
theorem B2.at_ {w wr : World} {n : Nat} {f : Nat → RowD} {og oc lo : Nat} {os : List Value} {pt : Nat → TypeId} {ob : Nat → Nat} {k : Nat} (h : B2 w n f og oc lo os pt ob k wr) : AtSt wr n n og oc pt ob :=
 ⟨h.var, fun i hi => own_cell h.own (h.has i hi), (h.own.lt og rfl).2⟩
theorem B2.new {w wr w2 : World} {n : Nat} {f : Nat → RowD} {og oc lo : Nat} {os : List Value} {pt : Nat → TypeId} {ob : Nat → Nat} {k : Nat} (h : B2 w n f og oc lo os pt ob k wr) (hb : Below wr.heap.size wr w2) : B2 w n f og oc lo os pt ob k w2 :=
 ⟨h.old.trans (hb.mono h.old.size), h.var.old hb, ownsRow_of h.own fun g _ hl => hb.block g hl, h.has, fun i hi => by
  obtain ⟨cs, cs0, ty, h1, h2, h3⟩ := h.full i hi
  exact ⟨cs, cs0, ty, h1, h2.old hb, h3.of_eq fun g hg _ => hb.block g hg⟩, fun i h1 hi => by
  obtain ⟨cs, ty, h1, h2⟩ := h.obj i h1 hi
  exact ⟨cs, ty, h1, h2.old hb⟩, h.far, h.inj, Nat.le_trans h.lo.1 hb.size, h.lo.2⟩
theorem B2.push {w wr w2 : World} {n : Nat} {f : Nat → RowD} {og oc lo : Nat} {os : List Value} {pt : Nat → TypeId} {ob : Nat → Nat} {k : Nat} {cs0 : Array Value} {ty : TypeId} (h : B2 w n f og oc lo os pt ob k wr) (hk : k < n) (ho : ObjC (f k).nm (f k).sz (f k).en (f k).fl (f k).k (pt (k + 1)) cs0 ty)
  (hf : FillPost wr (ob (k + 1)) lo ty pt ob (f k).nm (f k).sz (f k).en (f k).fl (f k).of (f k).ix (f k).q (f k).ys (f k).k w2) : B2 w n f og oc lo os pt ob (k + 1) w2 := by
 obtain ⟨cs, hg, hbk, hfull⟩ := hf
 obtain ⟨f1, f2, f3, f4⟩ := h.far k hk
 have hogl := h.own.lt og rfl
 have hne : ∀ i, i < n → i ≠ k → ob (i + 1) ≠ ob (k + 1) := fun i hi hik e => by
  rcases Nat.lt_or_gt_of_ne hik with x | x
  ·have := h.inj i k x hk; omega
  ·have := h.inj k i x hi; omega
 refine ⟨h.old.grown hg h.old.size (fun x hx => by cases hx; exact f1), h.var.grown hg (fun x => f4 (Option.some.inj x).symm), ownsRow_of h.own fun g hgg hl => hg.block g hl (fun x => by
   have e : og = g := by simpa [Value.ownBlock] using hgg
   exact f3 (by rw [e]; exact (Option.some.inj x).symm)), h.has, fun i hi => ?_, fun i h1 hi => ?_, h.far, h.inj, Nat.le_trans h.lo.1 hg.size, h.lo.2⟩
 ·by_cases hik : i < k
  ·obtain ⟨cs', cs0', ty', h1, h2, h3⟩ := h.full i hik
   exact ⟨cs', cs0', ty', h1, h2.grown hg (fun x => hne i (by omega) (by omega) (Option.some.inj x)), h3.of_eq fun g hgl hlo => hg.block g hgl (fun x => by have := Option.some.inj x; omega)⟩
  ·obtain rfl : i = k := by omega
   exact ⟨cs, cs0, ty, ho, hbk, hfull⟩
 ·obtain ⟨cs', ty', h2, h3⟩ := h.obj i (by omega) hi
  exact ⟨cs', ty', h2, h3.grown hg (fun x => hne i hi (by omega) (Option.some.inj x))⟩
end Go.Proofs.YtfilbgmbmlmdbaaGreatDoor
