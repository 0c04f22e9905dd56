/- The thin package's own filling in of parts: enumerations. -/
import Derived.Test.YtfilbgmbmlmdbaaGreatDoorImplE
namespace Go.Proofs.YtfilbgmbmlmdbaaGreatDoor
open Go.RowKit

theorem ERows.push {ys xs : List Value} {k : Nat} (h : ERows ys xs k) (hl : xs.length = k * 2) {nm : ByteArray} {o : Value} {a b v : Int} (hp : PRow ys k nm o a b v) : ERows ys (xs ++ [.string nm, .int .u64 (IntKind.u64.wrap v)]) (k + 1) := by
  intro j hj
  by_cases h1 : j < k
  · obtain ⟨nm, o, a, b, v, h2, h3, h4⟩ := h j h1
    exact ⟨nm, o, a, b, v, h2, by rw [List.getElem?_append_left (by omega)]; exact h3, by rw [List.getElem?_append_left (by omega)]; exact h4⟩
  · obtain rfl : j = k := by omega
    refine ⟨nm, o, a, b, v, hp, ?_, ?_⟩
    · rw [List.getElem?_append_right (by omega), show 2 * j - xs.length = 0 by omega]; rfl
    · rw [List.getElem?_append_right (by omega), show 2 * j + 1 - xs.length = 1 by omega]; rfl
section
variable (w : World) (nm : ByteArray) (sz en fl : Int) (of ix : Nat) (mv : Value) (q n cap og oc b lo : Nat) (ys : List Value) (pt : Nat → TypeId) (ob : Nat → Nat) (ha : AtSt w n cap og oc pt ob) (hn : n ≤ 1000000) (hlo : lo ≤ w.heap.size)
  (hof : of ≤ n) (hix : ix ≤ n) (hbo : b ≠ og ∧ b ≠ oc)
set_option linter.unusedSimpArgs false in
set_option linter.unusedSectionVars false in
set_option maxRecDepth 100000 in
set_option maxHeartbeats 4000000 in
include hlo in
theorem fill_enm (hb : Blk w b #[.string nm, .int .u32 sz, .bool (fl == 1), .slice none 0 0] 150) (ho : w.ownsRow 0 74 5 mv q ys) (hq : q ≤ 1000) (hmb : mv.ownBlock ≠ some b)
    (hm : ∀ j, j < q → ∃ (nm : ByteArray) (o : Nat) (a b v : Int), PRow ys j nm (.int .i64 o) a b v ∧ o ≤ n ∧ (0 ≤ a ∧ a < 4294967296) ∧ (0 ≤ b ∧ b < 4294967296)) :
    Calls Tryz.prog 51 #[.iface 144 (.pointer (some ⟨b, 0, none⟩)), .agg #[.int .i64 6, .string nm, .int .i64 sz, .int .i64 en, .int .i64 fl, .int .i64 of, .int .i64 ix, mv], .func (.func 50) #[] #[.pointer (some ⟨oc, 0, none⟩)]] w
      fun e w' => e = .returned (.tuple #[]) ∧ FillPost w b lo 150 pt ob nm sz en fl of ix q ys 6 w' := by
  have nPointer := taNoPointer 144 (by decide)
  have nArray := taNoArray 144 (by decide)
  have nStruct := taNoStruct 144 (by decide)
  have nUnion := taNoUnion 144 (by decide)
  have y0 := @ta_yes _ _ Tryz.underlying144
  have hbl := hb.lt
  obtain ⟨ma, mcap, rfl⟩ := own_slice ho
  go_enter Tryz.func51, Tryz.ntmps51
  go_wp2_with fail
  go_loopg [80] q (fun gk s80 wr => ∃ (j : Nat) (v : Value) (xs : List Value), j ≤ q ∧ q - j ≤ gk ∧ s80 = .int .i64 j ∧ w.grownBy wr (some b) ∧ Blk wr b #[.string nm, .int .u32 sz, .bool (fl == 1), v] 150 ∧ wr.ownsRow w.heap.size 131 2 v j xs ∧ ERows ys xs j)
  case atStart => exact ⟨0, _, [], Nat.zero_le _, Nat.le_refl _, rfl, ⟨rfl, rfl, rfl, by simp, fun k hk _ => Below.heap_alloc w _ k hk⟩, hb.alloc _, World.ownsRow_nil _ _ _ _, fun j h => by omega⟩
  case round =>
    obtain ⟨j, v, xs, hj, hgk, rfl, hgw, hbr, hown, hrows⟩ := hrel
    by_cases hlt : j < q
    · obtain ⟨nm2, o2, a2, b2, v2, hrow, -⟩ := hm j hlt
      obtain ⟨mg, mcap', hme, hmg⟩ := own_form ho (by omega)
      simp only [Value.slice.injEq] at hme
      obtain ⟨rfl, -, rfl⟩ := hme
      have hor : wr.ownsRow 0 74 5 (.slice (some ⟨mg, 0, none⟩) q mcap) q ys := ownsRow_of ho fun x hx hl => hgw.block x hl (fun e => hmb (by rw [hx, e]))
      obtain ⟨q0, q1, q2, q3, q4⟩ := row_cells hor hrow
      have hmg2 : mg < wr.heap.size := Nat.lt_of_lt_of_le hmg hgw.size
      have hgs := hgw.size
      have hbl2 : b < wr.heap.size := hbr.lt
      go_upto_region 19 with fail
      have hb8' : Below wr.heap.size wr (wr.alloc (.cells #[.string nm2, .int .i64 o2, .int .i64 a2, .int .i64 b2, .int .i64 v2] 74)).drew := ((Below.refl _ _).alloc (Nat.le_refl _) _).drew
      have hp8 : Blk (wr.alloc (.cells #[.string nm2, .int .i64 o2, .int .i64 a2, .int .i64 b2, .int .i64 v2] 74)).drew wr.heap.size _ _ := (Blk.new _ _ _).drew
      have hb8 := hbr.old hb8'
      have hown8 : (wr.alloc (.cells #[.string nm2, .int .i64 o2, .int .i64 a2, .int .i64 b2, .int .i64 v2] 74)).drew.ownsRow w.heap.size 131 2 v j xs := ownsRow_of hown fun g _ hl => hb8'.block g hl
      have hSof : ∀ w', Blk w' b #[.string nm, .int .u32 sz, .bool (fl == 1), v] 150 → Blk w' wr.heap.size #[.string nm2, .int .i64 o2, .int .i64 a2, .int .i64 b2, .int .i64 v2] 74 → w'.cell? ⟨b, 3, none⟩ = some v ∧ w'.cell? ⟨wr.heap.size, 0, none⟩ = some (.string nm2) ∧ w'.cell? ⟨wr.heap.size, 4, none⟩ = some (.int .i64 v2) :=
        fun w' h1 h2 => ⟨h1.cell 3, h2.cell 0, h2.cell 4⟩
      refine AnyBut.start (S := (fun w' => w'.cell? ⟨b, 3, none⟩ = some v ∧ w'.cell? ⟨wr.heap.size, 0, none⟩ = some (.string nm2) ∧ w'.cell? ⟨wr.heap.size, 4, none⟩ = some (.int .i64 v2))) (t := 15) (by as_aux_lemma => kernel_rfl) (hSof _ hb8 hp8) (fun hHeld => ?_)
      refine AnyBut.take (i := 0) (v := ?_) rfl (by as_aux_lemma => kernel_rfl) (by as_aux_lemma => kernel_rfl) (by as_aux_lemma => kernel_rfl) (by as_aux_lemma => kernel_rfl) (fun _ _ _ h => h) hHeld (by rfl) ?_ ?_
      rotate_left
      focus (intro w hSw; (try dsimp only at hSw); go_simp <;> with_reducible rfl)
      try simp only [Act.put, List.setIfInBounds_toArray, List.set_cons_zero, List.set_cons_succ]
      refine AnyBut.take (i := 1) (v := ?_) rfl (by as_aux_lemma => kernel_rfl) (by as_aux_lemma => kernel_rfl) (by as_aux_lemma => kernel_rfl) (by as_aux_lemma => kernel_rfl) (fun _ _ _ h => h) hHeld (by rfl) ?_ ?_
      rotate_left
      focus (intro w hSw; (try dsimp only at hSw); go_simp <;> with_reducible rfl)
      try simp only [Act.put, List.setIfInBounds_toArray, List.set_cons_zero, List.set_cons_succ]
      refine AnyBut.take (i := 2) (v := ?_) rfl (by as_aux_lemma => kernel_rfl) (by as_aux_lemma => kernel_rfl) (by as_aux_lemma => kernel_rfl) (by as_aux_lemma => kernel_rfl) (fun _ _ _ h => h) hHeld (by rfl) ?_ ?_
      rotate_left
      focus (intro w hSw; (try dsimp only at hSw); go_simp <;> with_reducible rfl)
      try simp only [Act.put, List.setIfInBounds_toArray, List.set_cons_zero, List.set_cons_succ]
      refine AnyBut.take (i := 3) (v := ?_) rfl (by as_aux_lemma => kernel_rfl) (by as_aux_lemma => kernel_rfl) (by as_aux_lemma => kernel_rfl) (by as_aux_lemma => kernel_rfl) (fun _ _ _ h => h) hHeld (by rfl) ?_ ?_
      rotate_left
      focus (intro w hSw; (try dsimp only at hSw); go_simp <;> with_reducible rfl)
      try simp only [Act.put, List.setIfInBounds_toArray, List.set_cons_zero, List.set_cons_succ]
      refine AnyBut.take (i := 4) (v := ?_) rfl (by as_aux_lemma => kernel_rfl) (by as_aux_lemma => kernel_rfl) (by as_aux_lemma => kernel_rfl) (by as_aux_lemma => kernel_rfl) (fun _ _ _ h => h) hHeld (by rfl) ?_ ?_
      rotate_left
      focus (intro w hSw; (try dsimp only at hSw); go_simp <;> with_reducible rfl)
      try simp only [Act.put, List.setIfInBounds_toArray, List.set_cons_zero, List.set_cons_succ]
      refine AnyBut.take (i := 5) (v := ?_) rfl (by as_aux_lemma => kernel_rfl) (by as_aux_lemma => kernel_rfl) (by as_aux_lemma => kernel_rfl) (by as_aux_lemma => kernel_rfl) (fun _ _ _ h => h) hHeld (by rfl) ?_ ?_
      rotate_left
      focus (intro w hSw; (try dsimp only at hSw); go_simp <;> with_reducible rfl)
      try simp only [Act.put, List.setIfInBounds_toArray, List.set_cons_zero, List.set_cons_succ]
      refine AnyBut.take (i := 6) (v := ?_) rfl (by as_aux_lemma => kernel_rfl) (by as_aux_lemma => kernel_rfl) (by as_aux_lemma => kernel_rfl) (by as_aux_lemma => kernel_rfl) (fun _ _ _ h => h) hHeld (by rfl) ?_ ?_
      rotate_left
      focus (intro w hSw; (try dsimp only at hSw); go_simp <;> with_reducible rfl)
      try simp only [Act.put, List.setIfInBounds_toArray, List.set_cons_zero, List.set_cons_succ]
      refine AnyBut.take (i := 7) (v := ?_) rfl (by as_aux_lemma => kernel_rfl) (by as_aux_lemma => kernel_rfl) (by as_aux_lemma => kernel_rfl) (by as_aux_lemma => kernel_rfl) (fun _ _ _ h => h) hHeld (by rfl) ?_ ?_
      rotate_left
      focus (intro w hSw; (try dsimp only at hSw); go_simp <;> with_reducible rfl)
      try simp only [Act.put, List.setIfInBounds_toArray, List.set_cons_zero, List.set_cons_succ]
      refine AnyBut.take (i := 8) (v := ?_) rfl (by as_aux_lemma => kernel_rfl) (by as_aux_lemma => kernel_rfl) (by as_aux_lemma => kernel_rfl) (by as_aux_lemma => kernel_rfl) (fun _ _ _ h => h) hHeld (by rfl) ?_ ?_
      rotate_left
      focus (intro w hSw; (try dsimp only at hSw); go_simp <;> with_reducible rfl)
      try simp only [Act.put, List.setIfInBounds_toArray, List.set_cons_zero, List.set_cons_succ]
      refine AnyBut.take (i := 9) (v := ?_) rfl (by as_aux_lemma => kernel_rfl) (by as_aux_lemma => kernel_rfl) (by as_aux_lemma => kernel_rfl) (by as_aux_lemma => kernel_rfl) (fun _ _ _ h => h) hHeld (by rfl) ?_ ?_
      rotate_left
      focus (intro w hSw; (try dsimp only at hSw); go_simp <;> with_reducible rfl)
      try simp only [Act.put, List.setIfInBounds_toArray, List.set_cons_zero, List.set_cons_succ]
      refine AnyBut.take (i := 10) (v := ?_) rfl (by as_aux_lemma => kernel_rfl) (by as_aux_lemma => kernel_rfl) (by as_aux_lemma => kernel_rfl) (by as_aux_lemma => kernel_rfl) (fun _ _ _ h => h) hHeld (by rfl) ?_ ?_
      rotate_left
      focus (intro w hSw; (try dsimp only at hSw); go_simp <;> with_reducible rfl)
      try simp only [Act.put, List.setIfInBounds_toArray, List.set_cons_zero, List.set_cons_succ]
      refine AnyBut.one (i := 11) (by as_aux_lemma => kernel_rfl) rfl (fun K hK => ?_)
      go_simp
      refine hK.out _ _ (hSof _ (hb8.alloc _) (hp8.alloc _)) (fun hHeld => ?_)
      clear hK K
      try simp only [Act.put, List.setIfInBounds_toArray, List.set_cons_zero, List.set_cons_succ]
      refine AnyBut.one (i := 12) (by as_aux_lemma => kernel_rfl) rfl (fun K hK => ?_)
      refine step_app evalParts (.tmp 88) (.tmp 95) rfl rfl w.heap.size v j xs rfl (hown8.alloc _) _ 1 1 _ rfl (Blk.newAt _ _ _ (by simp)).drew rfl rfl (by decide) ?_ (by omega) (by unfold maxLen; omega) (by simp; omega)
      intro g1 cap1 w10 ha10
      have hb10 := (hbr.alloc _ |>.alloc _ |>.drew).grown ha10.2.1 (fun x => by have := (hown.lt _ x.symm).1; omega)
      have hp10 := (hp8.alloc _).grown ha10.2.1 (fun x => by have := (hown.lt _ x.symm).2; omega)
      have z3 := hb10.cell 3
      have zf3 := hb10.free 3
      simp only [List.getElem?_toArray, List.getElem?_cons_zero, List.getElem?_cons_succ] at z3
      refine hK.out _ _ (hSof _ hb10 hp10) (fun hHeld => ?_)
      clear hK K
      try simp only [Act.put, List.setIfInBounds_toArray, List.set_cons_zero, List.set_cons_succ]
      refine AnyBut.take (i := 13) (v := ?_) rfl (by as_aux_lemma => kernel_rfl) (by as_aux_lemma => kernel_rfl) (by as_aux_lemma => kernel_rfl) (by as_aux_lemma => kernel_rfl) (fun _ _ _ h => h) hHeld (by rfl) ?_ ?_
      rotate_left
      focus (intro w hSw; (try dsimp only at hSw); go_simp <;> with_reducible rfl)
      try simp only [Act.put, List.setIfInBounds_toArray, List.set_cons_zero, List.set_cons_succ]
      refine AnyBut.take (i := 14) (v := ?_) rfl (by as_aux_lemma => kernel_rfl) (by as_aux_lemma => kernel_rfl) (by as_aux_lemma => kernel_rfl) (by as_aux_lemma => kernel_rfl) (fun _ _ _ h => h) hHeld (by rfl) ?_ ?_
      rotate_left
      focus (intro w hSw; (try dsimp only at hSw); go_simp <;> with_reducible rfl)
      try simp only [Act.put, List.setIfInBounds_toArray, List.set_cons_zero, List.set_cons_succ]
      refine AnyBut.last (by as_aux_lemma => kernel_rfl) rfl (by as_aux_lemma => kernel_rfl) (fun K hK => ?_)
      go_simp
      refine hK.out _ _ ?_
      clear hK K
      try simp only [Act.put, List.setIfInBounds_toArray, List.set_cons_zero, List.set_cons_succ]
      go_wp2_with fail
      have hgo := hb8'.size
      have hgr10 := ha10.2.1
      have hg1 := (ha10.1.lt g1 rfl).1
      go_roundg (q - (j + 1))
      case measure => omega
      case rel =>
        refine ⟨j + 1, _, _, hlt, Nat.le_refl _, by go_num, ⟨hgr10.os.trans hgw.os, hgr10.tape.trans hgw.tape, hgr10.output.trans hgw.output, ?_, fun k hk hne => ?_⟩, hb10.set 3 _, ownsRow_setCell ha10.1 (fun x => ?_) _, hrows.push hown.1 hrow⟩
        · have := hgr10.size
          simp at this ⊢
          have h2 : (World.alloc (World.alloc wr (.cells #[.string nm2, .int .i64 o2, .int .i64 a2, .int .i64 b2, .int .i64 v2] 74)) (.cells #[.string nm2, .int .u64 (IntKind.u64.wrap v2)] 131)).heap.size ≤ w10.heap.size := hgr10.size
          simp at h2
          omega
        · rw [Below.heap_setCell _ _ _ _ (fun e => hne (by rw [e]))]
          have h3 : w10.heap[k]? = (World.alloc (World.alloc wr (.cells #[.string nm2, .int .i64 o2, .int .i64 a2, .int .i64 b2, .int .i64 v2] 74)) (.cells #[.string nm2, .int .u64 (IntKind.u64.wrap v2)] 131)).heap[k]? :=
            hgr10.block k (by show k < (World.alloc (World.alloc wr _) _).heap.size; simp; omega) (fun x => by have := (hown.lt k x.symm).1; omega)
          rw [h3, Below.heap_alloc _ _ k (by simp; omega), Below.heap_alloc wr _ k (by omega)]
          exact hgw.block k hk hne
        · have e : b = g1 := by simpa [Value.ownBlock, eq_comm] using x
          omega
    · obtain rfl : j = q := by omega
      go_wp2_with fail
      go_end0
      exact ⟨rfl, _, hgw, hbr, .enm (ownsRow_base hown hlo) hrows⟩
end
#print axioms fill_enm
end Go.Proofs.YtfilbgmbmlmdbaaGreatDoor
