/- The thin package's own filling in of parts: what a number stands for; the fields of a struct. -/
import Derived.Test.YtfilbgmbmlmdbaaGreatDoorImplB
import Derived.Test.YtfilbgmbmlmdbaaGreatDoorOrd
namespace Go.Proofs.YtfilbgmbmlmdbaaGreatDoor
open Go.RowKit

/-- What the numbers of a list stand for, as a world has it. -/
structure AtSt (w : World) (n cap og oc : Nat) (pt : Nat → TypeId) (ob : Nat → Nat) : Prop where
  var : Blk w oc #[.slice (some ⟨og, 0, none⟩) n cap] 78
  has : ∀ i, i < n → w.cell? ⟨og, i, none⟩ = some (.iface (pt (i + 1)) (.pointer (some ⟨ob (i + 1), 0, none⟩)))
  lt : og < w.heap.size
theorem AtSt.keep {w w' : World} {n cap og oc : Nat} {pt : Nat → TypeId} {ob : Nat → Nat} (h : AtSt w n cap og oc pt ob) (h1 : w'.heap[og]? = w.heap[og]?) (h2 : w'.heap[oc]? = w.heap[oc]?) (hs : w.heap.size ≤ w'.heap.size) : AtSt w' n cap og oc pt ob :=
  ⟨h.var.of_eq h2, fun i hi => by rw [World.cell?_of_block (a := ⟨og, i, none⟩) h1]; exact h.has i hi, Nat.lt_of_lt_of_le h.lt hs⟩
theorem AtSt.old {w w' : World} {n cap og oc : Nat} {pt : Nat → TypeId} {ob : Nat → Nat} (h : AtSt w n cap og oc pt ob) (hb : Below w.heap.size w w') : AtSt w' n cap og oc pt ob := h.keep (hb.block _ h.lt) (hb.block _ h.var.lt) hb.size
theorem AtSt.drew {w w' : World} {n cap og oc : Nat} {pt : Nat → TypeId} {ob : Nat → Nat} (h : AtSt w n cap og oc pt ob) (hb : Below w.heap.size w w') : AtSt w' n cap og oc pt ob := h.old hb

set_option maxRecDepth 100000 in
set_option maxHeartbeats 2000000 in
theorem at_any (o n cap og oc : Nat) (pt : Nat → TypeId) (ob : Nat → Nat) (w : World) (h1 : 1 ≤ o) (hn : o ≤ n) (hn1 : n ≤ 1000000) (h : AtSt w n cap og oc pt ob) :
    Calls Tryz.prog 50 #[.int .i64 o, .pointer (some ⟨oc, 0, none⟩)] w fun e w' => e = .returned (.iface (pt o) (.pointer (some ⟨ob o, 0, none⟩))) ∧ w' = w := by
  obtain ⟨j, rfl⟩ : ∃ j, o = j + 1 := ⟨o - 1, by omega⟩
  have hz := h.has j (by omega)
  have hv := h.var.cell 0
  simp only [List.getElem?_toArray, List.getElem?_cons_zero] at hv
  have hne : (((j : Int) + 1) == 0) = false := by simp; omega
  have hj : (j : Int) < n := by omega
  have hjs : (j : Int) ≤ 1000000 := by omega
  go_enter Tryz.func50, Tryz.ntmps50
  go_wp2
  go_ret
  exact ⟨rfl, rfl⟩

theorem bmemParts : ElemOk Tryz.prog 185 189 5 64 := .of (z := .agg #[.string ⟨#[]⟩, .nilIface, .int .u32 0, .int .u32 0, .slice none 0 0]) Tryz.underlying185 (by kernel_rfl) (by rfl) (by decide)
/-- Row j of a struct's fields. -/
def BRow (xs : List Value) (i : Nat) (nm : ByteArray) (t : Value) (a b : Int) : Prop :=
  xs[5 * i]? = some (.string nm) ∧ xs[5 * i + 1]? = some t ∧ xs[5 * i + 2]? = some (.int .u32 a) ∧ xs[5 * i + 3]? = some (.int .u32 b) ∧ xs[5 * i + 4]? = some (.slice none 0 0)
theorem BRow.left {xs ys : List Value} {i n : Nat} {nm : ByteArray} {t : Value} {a b : Int} (h : BRow xs i nm t a b) (hx : xs.length = n * 5) (hi : i < n) : BRow (xs ++ ys) i nm t a b := by
  obtain ⟨h1, h2, h3, h4, h5⟩ := h
  refine ⟨?_, ?_, ?_, ?_, ?_⟩ <;> (rw [List.getElem?_append_left (by omega)]; assumption)
theorem BRow.last {xs : List Value} {n : Nat} (nm : ByteArray) (t : Value) (a b : Int) (hx : xs.length = n * 5) : BRow (xs ++ [.string nm, t, .int .u32 a, .int .u32 b, .slice none 0 0]) n nm t a b := by
  refine ⟨?_, ?_, ?_, ?_, ?_⟩
  · rw [List.getElem?_append_right (by omega), show 5 * n - xs.length = 0 by omega]; rfl
  · rw [List.getElem?_append_right (by omega), show 5 * n + 1 - xs.length = 1 by omega]; rfl
  · rw [List.getElem?_append_right (by omega), show 5 * n + 2 - xs.length = 2 by omega]; rfl
  · rw [List.getElem?_append_right (by omega), show 5 * n + 3 - xs.length = 3 by omega]; rfl
  · rw [List.getElem?_append_right (by omega), show 5 * n + 4 - xs.length = 4 by omega]; rfl
/-- The fields so far are those of the list's row. -/
def BRows (ys xs : List Value) (pt : Nat → TypeId) (ob : Nat → Nat) (k : Nat) : Prop := ∀ j, j < k → ∃ (nm : ByteArray) (o : Nat) (a b v : Int), PRow ys j nm (.int .i64 o) a b v ∧ 1 ≤ o ∧ BRow xs j nm (.iface (pt o) (.pointer (some ⟨ob o, 0, none⟩))) a b
theorem BRows.push {ys xs : List Value} {pt : Nat → TypeId} {ob : Nat → Nat} {k : Nat} (h : BRows ys xs pt ob k) (hl : xs.length = k * 5) {nm : ByteArray} {o : Nat} {a b v : Int} (hr : PRow ys k nm (.int .i64 o) a b v) (ho : 1 ≤ o) :
    BRows ys (xs ++ [.string nm, .iface (pt o) (.pointer (some ⟨ob o, 0, none⟩)), .int .u32 a, .int .u32 b, .slice none 0 0]) pt ob (k + 1) := by
  intro j hj
  by_cases h1 : j < k
  · obtain ⟨nm, o, a, b, v, h2, h3, h4⟩ := h j h1
    exact ⟨nm, o, a, b, v, h2, h3, h4.left hl h1⟩
  · obtain rfl : j = k := by omega
    exact ⟨nm, o, a, b, v, hr, ho, BRow.last _ _ _ _ hl⟩

set_option linter.unusedSimpArgs false in
set_option maxRecDepth 100000 in
set_option maxHeartbeats 4000000 in
theorem members_any (W : World) (mv : Value) (q n cap og oc : Nat) (ys : List Value) (pt : Nat → TypeId) (ob : Nat → Nat) (hat0 : AtSt W n cap og oc pt ob) (hn : n ≤ 1000000) (ho : W.ownsRow 0 74 5 mv q ys) (hq : q ≤ 1000) 
    (hm : ∀ j, j < q → ∃ (nm : ByteArray) (o : Nat) (a b v : Int), PRow ys j nm (.int .i64 o) a b v ∧ (1 ≤ o ∧ o ≤ n) ∧ (0 ≤ a ∧ a < 4294967296) ∧ (0 ≤ b ∧ b < 4294967296)) :
    Calls Tryz.prog 75 #[mv, .func (.func 50) #[] #[.pointer (some ⟨oc, 0, none⟩)]] W fun e w' => ∃ v xs, e = .returned v ∧ w'.ownsRow W.heap.size 189 5 v q xs ∧ BRows ys xs pt ob q ∧ Below W.heap.size W w' := by
  obtain ⟨ma, mcap, rfl⟩ := own_slice ho
  go_enter Tryz.func75, Tryz.ntmps75
  go_wp2_with fail
  go_loopg [5, 10] q (fun gk s5 s10 wr => ∃ (v : Value) (k : Nat) (xs : List Value), v = s5 ∧ k ≤ q ∧ q - k ≤ gk ∧ s10 = .int .i64 k ∧ wr.ownsRow W.heap.size 189 5 v k xs ∧ BRows ys xs pt ob k ∧ Below W.heap.size W wr)
  case atStart => exact ⟨_, 0, [], rfl, Nat.zero_le _, Nat.le_refl _, rfl, World.ownsRow_nil _ _ _ _, fun j h => by omega, Below.refl _ _⟩
  case round =>
    obtain ⟨v, k, xs, rfl, hk, hgk, rfl, hown, hrows, hbr⟩ := hrel
    by_cases hlt : k < q
    · obtain ⟨nm2, o2, a2, b2, v2, hrow, ⟨ho1, ho2⟩, ⟨ha21, ha22⟩, ⟨hb21, hb22⟩⟩ := hm k hlt
      obtain ⟨mg, mcap', hme, hmg⟩ := own_form ho (by omega)
      simp only [Value.slice.injEq] at hme
      obtain ⟨rfl, -, rfl⟩ := hme
      have hor : wr.ownsRow 0 74 5 (.slice (some ⟨mg, 0, none⟩) q mcap) q ys := ownsRow_of ho fun x _ hl => hbr.block x hl
      obtain ⟨q0, q1, q2, q3, q4⟩ := row_cells hor hrow
      have hmg2 : mg < wr.heap.size := Nat.lt_of_lt_of_le hmg hbr.size
      have hWr := hbr.size
      have hat := hat0.old hbr
      go_upto_region 5 with fail
      have hb8 : Below wr.heap.size wr (wr.alloc (.cells #[.string nm2, .int .i64 o2, .int .i64 a2, .int .i64 b2, .int .i64 v2] 74)).drew := ((Below.refl _ _).alloc (Nat.le_refl _) _).drew
      have hp8 : Blk (wr.alloc (.cells #[.string nm2, .int .i64 o2, .int .i64 a2, .int .i64 b2, .int .i64 v2] 74)).drew wr.heap.size _ _ := (Blk.new _ _ _).drew
      have hown8 : (wr.alloc (.cells #[.string nm2, .int .i64 o2, .int .i64 a2, .int .i64 b2, .int .i64 v2] 74)).drew.ownsRow W.heap.size 189 5 v k xs := ownsRow_of hown fun g _ hl => hb8.block g hl
      have ea : IntKind.u32.wrap a2 = a2 := IntWalk.u32_in _ (by omega)
      have eb : IntKind.u32.wrap b2 = b2 := IntWalk.u32_in _ (by omega)
      have hone : (#[.string nm2, (.iface (pt o2) (.pointer (some ⟨ob o2, 0, none⟩))), .int .u32 a2, .int .u32 b2, .slice none 0 0] : Array Value).toList.all Value.oneCell' = true := by simp [Value.oneCell']
      have hSof : ∀ w', Blk w' wr.heap.size #[.string nm2, .int .i64 o2, .int .i64 a2, .int .i64 b2, .int .i64 v2] 74 → w'.cell? ⟨wr.heap.size, 0, none⟩ = some (.string nm2) ∧ w'.cell? ⟨wr.heap.size, 1, none⟩ = some (.int .i64 o2) ∧ w'.cell? ⟨wr.heap.size, 2, none⟩ = some (.int .i64 a2) ∧ w'.cell? ⟨wr.heap.size, 3, none⟩ = some (.int .i64 b2) :=
        fun w' h1 => ⟨h1.cell 0, h1.cell 1, h1.cell 2, h1.cell 3⟩
      refine AnyBut.start (S := (fun w' => w'.cell? ⟨wr.heap.size, 0, none⟩ = some (.string nm2) ∧ w'.cell? ⟨wr.heap.size, 1, none⟩ = some (.int .i64 o2) ∧ w'.cell? ⟨wr.heap.size, 2, none⟩ = some (.int .i64 a2) ∧ w'.cell? ⟨wr.heap.size, 3, none⟩ = some (.int .i64 b2))) (t := 16) (by as_aux_lemma => kernel_rfl) (hSof _ hp8) (fun hHeld => ?_)
      refine AnyBut.take (i := 0) (v := ?_) rfl (by as_aux_lemma => kernel_rfl) (by as_aux_lemma => kernel_rfl) (by as_aux_lemma => kernel_rfl) (by as_aux_lemma => kernel_rfl) (fun _ _ _ h => h) hHeld (by rfl) ?_ ?_
      rotate_left
      focus (intro w hSw; (try dsimp only at hSw); go_simp <;> with_reducible rfl)
      try simp only [Act.put, List.setIfInBounds_toArray, List.set_cons_zero, List.set_cons_succ]
      refine AnyBut.take (i := 1) (v := ?_) rfl (by as_aux_lemma => kernel_rfl) (by as_aux_lemma => kernel_rfl) (by as_aux_lemma => kernel_rfl) (by as_aux_lemma => kernel_rfl) (fun _ _ _ h => h) hHeld (by rfl) ?_ ?_
      rotate_left
      focus (intro w hSw; (try dsimp only at hSw); go_simp <;> with_reducible rfl)
      try simp only [Act.put, List.setIfInBounds_toArray, List.set_cons_zero, List.set_cons_succ]
      refine AnyBut.take (i := 2) (v := ?_) rfl (by as_aux_lemma => kernel_rfl) (by as_aux_lemma => kernel_rfl) (by as_aux_lemma => kernel_rfl) (by as_aux_lemma => kernel_rfl) (fun _ _ _ h => h) hHeld (by rfl) ?_ ?_
      rotate_left
      focus (intro w hSw; (try dsimp only at hSw); go_simp <;> with_reducible rfl)
      try simp only [Act.put, List.setIfInBounds_toArray, List.set_cons_zero, List.set_cons_succ]
      refine AnyBut.take (i := 3) (v := ?_) rfl (by as_aux_lemma => kernel_rfl) (by as_aux_lemma => kernel_rfl) (by as_aux_lemma => kernel_rfl) (by as_aux_lemma => kernel_rfl) (fun _ _ _ h => h) hHeld (by rfl) ?_ ?_
      rotate_left
      focus (intro w hSw; (try dsimp only at hSw); go_simp <;> with_reducible rfl)
      try simp only [Act.put, List.setIfInBounds_toArray, List.set_cons_zero, List.set_cons_succ]
      refine AnyBut.take (i := 4) (v := ?_) rfl (by as_aux_lemma => kernel_rfl) (by as_aux_lemma => kernel_rfl) (by as_aux_lemma => kernel_rfl) (by as_aux_lemma => kernel_rfl) (fun _ _ _ h => h) hHeld (by rfl) ?_ ?_
      rotate_left
      focus (intro w hSw; (try dsimp only at hSw); go_simp <;> with_reducible rfl)
      try simp only [Act.put, List.setIfInBounds_toArray, List.set_cons_zero, List.set_cons_succ]
      refine AnyBut.take (i := 5) (v := ?_) rfl (by as_aux_lemma => kernel_rfl) (by as_aux_lemma => kernel_rfl) (by as_aux_lemma => kernel_rfl) (by as_aux_lemma => kernel_rfl) (fun _ _ _ h => h) hHeld (by rfl) ?_ ?_
      rotate_left
      focus (intro w hSw; (try dsimp only at hSw); go_simp <;> with_reducible rfl)
      try simp only [Act.put, List.setIfInBounds_toArray, List.set_cons_zero, List.set_cons_succ]
      refine AnyBut.take (i := 7) (v := ?_) rfl (by as_aux_lemma => kernel_rfl) (by as_aux_lemma => kernel_rfl) (by as_aux_lemma => kernel_rfl) (by as_aux_lemma => kernel_rfl) (fun _ _ _ h => h) hHeld (by rfl) ?_ ?_
      rotate_left
      focus (intro w hSw; (try dsimp only at hSw); go_simp <;> with_reducible rfl)
      try simp only [Act.put, List.setIfInBounds_toArray, List.set_cons_zero, List.set_cons_succ]
      refine AnyBut.take (i := 8) (v := ?_) rfl (by as_aux_lemma => kernel_rfl) (by as_aux_lemma => kernel_rfl) (by as_aux_lemma => kernel_rfl) (by as_aux_lemma => kernel_rfl) (fun _ _ _ h => h) hHeld (by rfl) ?_ ?_
      rotate_left
      focus (intro w hSw; (try dsimp only at hSw); go_simp <;> with_reducible rfl)
      try simp only [Act.put, List.setIfInBounds_toArray, List.set_cons_zero, List.set_cons_succ]
      refine AnyBut.take (i := 9) (v := ?_) rfl (by as_aux_lemma => kernel_rfl) (by as_aux_lemma => kernel_rfl) (by as_aux_lemma => kernel_rfl) (by as_aux_lemma => kernel_rfl) (fun _ _ _ h => h) hHeld (by rfl) ?_ ?_
      rotate_left
      focus (intro w hSw; (try dsimp only at hSw); go_simp <;> with_reducible rfl)
      try simp only [Act.put, List.setIfInBounds_toArray, List.set_cons_zero, List.set_cons_succ]
      refine AnyBut.take (i := 10) (v := ?_) rfl (by as_aux_lemma => kernel_rfl) (by as_aux_lemma => kernel_rfl) (by as_aux_lemma => kernel_rfl) (by as_aux_lemma => kernel_rfl) (fun _ _ _ h => h) hHeld (by rfl) ?_ ?_
      rotate_left
      focus (intro w hSw; (try dsimp only at hSw); go_simp <;> with_reducible rfl)
      try simp only [Act.put, List.setIfInBounds_toArray, List.set_cons_zero, List.set_cons_succ]
      refine AnyBut.take (i := 11) (v := ?_) rfl (by as_aux_lemma => kernel_rfl) (by as_aux_lemma => kernel_rfl) (by as_aux_lemma => kernel_rfl) (by as_aux_lemma => kernel_rfl) (fun _ _ _ h => h) hHeld (by rfl) ?_ ?_
      rotate_left
      focus (intro w hSw; (try dsimp only at hSw); go_simp <;> with_reducible rfl)
      try simp only [Act.put, List.setIfInBounds_toArray, List.set_cons_zero, List.set_cons_succ]
      refine AnyBut.take (i := 12) (v := ?_) rfl (by as_aux_lemma => kernel_rfl) (by as_aux_lemma => kernel_rfl) (by as_aux_lemma => kernel_rfl) (by as_aux_lemma => kernel_rfl) (fun _ _ _ h => h) hHeld (by rfl) ?_ ?_
      rotate_left
      focus (intro w hSw; (try dsimp only at hSw); go_simp <;> with_reducible rfl)
      try simp only [Act.put, List.setIfInBounds_toArray, List.set_cons_zero, List.set_cons_succ]
      refine AnyBut.one (i := 6) (by as_aux_lemma => kernel_rfl) rfl (fun K hK => ?_)
      go_simp
      go_at_call 50
      refine (at_any o2 n cap og oc pt ob _ ho1 ho2 hn (hat.drew hb8)).mono ?_
      rintro e w9 ⟨rfl, rfl⟩
      refine hK.out _ _ (hSof _ hp8) (fun hHeld => ?_)
      clear hK K
      try simp only [Act.put, List.setIfInBounds_toArray, List.set_cons_zero, List.set_cons_succ]
      refine AnyBut.take (i := 13) (v := ?_) rfl (by as_aux_lemma => kernel_rfl) (by as_aux_lemma => kernel_rfl) (by as_aux_lemma => kernel_rfl) (by as_aux_lemma => kernel_rfl) (fun _ _ _ h => h) hHeld (by rfl) ?_ ?_
      rotate_left
      focus (intro w hSw; (try dsimp only at hSw); go_simp <;> with_reducible rfl)
      try simp only [Act.put, List.setIfInBounds_toArray, List.set_cons_zero, List.set_cons_succ]
      refine AnyBut.one (i := 14) (by as_aux_lemma => kernel_rfl) rfl (fun K hK => ?_)
      go_simp
      refine hK.out _ _ (hSof _ (hp8.alloc _)) (fun hHeld => ?_)
      clear hK K
      try simp only [Act.put, List.setIfInBounds_toArray, List.set_cons_zero, List.set_cons_succ]
      refine AnyBut.one (i := 15) (by as_aux_lemma => kernel_rfl) rfl (fun K hK => ?_)
      refine step_app bmemParts (.tmp 14) (.tmp 28) rfl rfl W.heap.size v k xs rfl (hown8.alloc _) _ 1 1 #[.string nm2, (.iface (pt o2) (.pointer (some ⟨ob o2, 0, none⟩))), .int .u32 a2, .int .u32 b2, .slice none 0 0] rfl (Blk.newAt _ _ _ (by simp)).drew rfl hone (by decide) ?_ (by omega) (by unfold maxLen; omega) (by simp; omega)
      intro g1 cap1 w10 ha10
      refine hK.out _ _ (hSof _ ((hp8.alloc _).grown ha10.2.1 (fun x => by have := (hown.lt _ x.symm).2; omega))) (fun hHeld => ?_)
      clear hK K
      try simp only [Act.put, List.setIfInBounds_toArray, List.set_cons_zero, List.set_cons_succ]
      refine AnyBut.last (by as_aux_lemma => kernel_rfl) rfl (by as_aux_lemma => kernel_rfl) (fun K hK => ?_)
      go_simp
      refine hK.out _ _ ?_
      clear hK K
      try simp only [Act.put, List.setIfInBounds_toArray, List.set_cons_zero, List.set_cons_succ]
      go_wp2_with fail
      go_roundg (q - (k + 1))
      case measure => omega
      case rel => exact ⟨_, k + 1, _, rfl, hlt, Nat.le_refl _, by go_num, ha10.1, hrows.push hown.1 hrow ho1, ha10.below (hown8.alloc _) ((hbr.trans (hb8.mono hWr)).alloc (by have := hb8.size; omega) _) (by have := hb8.size; simp; omega) (Nat.le_refl _)⟩
    · obtain rfl : k = q := by omega
      go_wp2_with fail
      go_ret
      exact ⟨v, xs, rfl, hown, hrows, hbr⟩
#print axioms members_any
end Go.Proofs.YtfilbgmbmlmdbaaGreatDoor
