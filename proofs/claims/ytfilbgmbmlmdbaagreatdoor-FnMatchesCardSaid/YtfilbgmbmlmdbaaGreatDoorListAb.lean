/- The list in the making, around a call of put: words and plain lemmas. Nothing is claimed here. -/
import Derived.Test.YtfilbgmbmlmdbaaGreatDoorListA
import Derived.Deep.MidRow
namespace Go.Proofs.YtfilbgmbmlmdbaaGreatDoor
open Go.RowKit

theorem listParts : ElemOk Tryz.prog 40 72 8 88 := .of (z := .agg #[.int .i64 0, .string ⟨#[]⟩, .int .i64 0, .int .i64 0, .int .i64 0, .int .i64 0, .int .i64 0, .slice none 0 0]) Tryz.underlying40 (by kernel_rfl) (by rfl) (by decide)
theorem memParts : ElemOk Tryz.prog 70 74 5 48 := .of (z := .agg #[.string ⟨#[]⟩, .int .i64 0, .int .i64 0, .int .i64 0, .int .i64 0]) Tryz.underlying70 (by kernel_rfl) (by rfl) (by decide)
theorem ptrInfo : ∃ j, Tryz.prog.info? 38 = some j ∧ j.size ≠ 0 := by
  have h : (Tryz.prog.info? 38).map (·.size) = some 6 := by kernel_rfl
  obtain ⟨j, hj, hs⟩ := Option.map_eq_some_iff.1 h
  exact ⟨j, hj, by rw [hs]; decide⟩

/-- The cells that put shares with listed. -/
structure Env (W : World) (nb lb pb xb mb ib hb : Nat) (w : World) : Prop where
  num : Blk w nb #[.map (some mb)] 67
  put : Blk w pb #[.func (.func 31) #[] #[.pointer (some ⟨nb, 0, none⟩), .pointer (some ⟨lb, 0, none⟩), .pointer (some ⟨pb, 0, none⟩), .pointer (some ⟨xb, 0, none⟩)]] 68
  idx : Blk w xb #[.pointer (some ⟨ib, 0, none⟩)] 24
  ne : (nb < W.heap.size ∧ pb < W.heap.size ∧ xb < W.heap.size) ∧ ¬ Ex lb mb hb nb ∧ ¬ Ex lb mb hb pb ∧ ¬ Ex lb mb hb xb
theorem Env.keep {W : World} {nb lb pb xb mb ib hb : Nat} {w w' : World} (h : Env W nb lb pb xb mb ib hb w) (hk : ∀ g, g < w.heap.size → g < W.heap.size → ¬ Ex lb mb hb g → w'.heap[g]? = w.heap[g]?) : Env W nb lb pb xb mb ib hb w' :=
  ⟨h.num.of_eq (hk _ h.num.lt h.ne.1.1 h.ne.2.1), h.put.of_eq (hk _ h.put.lt h.ne.1.2.1 h.ne.2.2.1), h.idx.of_eq (hk _ h.idx.lt h.ne.1.2.2 h.ne.2.2.2), h.ne⟩
theorem Env.kept {W : World} {nb lb pb xb mb ib hb : Nat} {w w' : World} (h : Env W nb lb pb xb mb ib hb w) {v : Value} (hk : Kept (Wr lb mb v) w w') (hv : ∀ g, v.ownBlock = some g → g = hb ∨ W.heap.size ≤ g) : Env W nb lb pb xb mb ib hb w' :=
  h.keep fun g hg hW he => hk.2 g hg (fun x => by
    rcases x with x | x | x
    · exact he (.inl x)
    · exact he (.inr (.inl x))
    · rcases hv g x with y | y
      · exact he (.inr (.inr y))
      · omega)

/-- The contract of put at a type. -/
def PutC (t : Ty) : Prop := ∀ (W : World) (nb lb pb xb mb ib hb b : Nat) (X : Nat → Prop) (n : Nat) (v : Value) (xs : List Value) (m : Value → Option Value) (U : Nat → Prop) (w : World),
  Env W nb lb pb xb mb ib hb w → LSt W lb mb (.pointer (some ⟨ib, 0, none⟩)) hb X n v xs m U w → Rep W (Ex lb mb hb) b t → Good t → Rep W (Ex lb mb hb) ib (.int 4 false ⟨#[117, 52]⟩) → n + t.cnt ≤ 1000000 →
  Calls Tryz.prog 31 #[.pointer (some ⟨b, 0, none⟩), .pointer (some ⟨nb, 0, none⟩), .pointer (some ⟨lb, 0, none⟩), .pointer (some ⟨pb, 0, none⟩), .pointer (some ⟨xb, 0, none⟩)] w (PutPost W lb mb (.pointer (some ⟨ib, 0, none⟩)) hb X n v xs m U w (.pointer (some ⟨b, 0, none⟩)) t.cnt)

theorem LSt.keysIn {W w w' : World} {lb mb : Nat} {ixv : Value} {hb n : Nat} {X : Nat → Prop} {v : Value} {xs : List Value} {m : Value → Option Value} {U : Nat → Prop} (st : LSt W lb mb ixv hb X n v xs m U w) (ho : Old W lb mb hb w') : ∀ x u, m x = some u → PtrKey w' x := by
  intro x u hx
  obtain ⟨b, i, t, rfl, _, _, r, _⟩ := st.key x u hx
  obtain ⟨_, _, _, _, _, _, h, hd⟩ := r.head
  exact ⟨b, _, _, rfl, ho.blk h hd⟩
theorem LSt.keys {W w : World} {lb mb : Nat} {ixv : Value} {hb n : Nat} {X : Nat → Prop} {v : Value} {xs : List Value} {m : Value → Option Value} {U : Nat → Prop} (st : LSt W lb mb ixv hb X n v xs m U w) : ∀ x u, m x = some u → PtrKey w x := st.keysIn st.old
theorem LSt.apart {W w : World} {lb mb : Nat} {ixv : Value} {hb n : Nat} {X : Nat → Prop} {v : Value} {xs : List Value} {m : Value → Option Value} {U : Nat → Prop} (st : LSt W lb mb ixv hb X n v xs m U w) {g : Nat} (hg : X g) : ¬ Wr lb mb v g := fun h => by
  have hh := st.xs g hg
  have hlo := st.lo
  rcases h with h | h | h
  · omega
  · omega
  · exact hh.2.2 h
/-- What stays behind an append to the list and the store of its head. -/
theorem app_stay {w w0 w1 : World} {base n m g cap lb : Nat} {e size : Nat} {v : Value} {xs news : List Value} (h0 : Below w.heap.size w w0) (ha : Appended w0 base e size v n m xs news g cap w1) (u : Value)
    {k : Nat} (hk : k < w.heap.size) (hb : v.ownBlock ≠ some k) (hl : k ≠ lb) : (w1.setCell ⟨lb, 0, none⟩ u).heap[k]? = w.heap[k]? := by
  rw [Below.heap_setCell _ _ _ _ hl, ha.2.1.block k (Nat.lt_of_lt_of_le hk h0.size) (fun x => hb x.symm), h0.block k hk]
theorem Ty.cnt_pos (t : Ty) : 1 ≤ t.cnt := by cases t <;> simp [Ty.cnt]

/-- What a type is of, all of it put. -/
def Kids : Ty → Prop
  | .ptr t => PutC t
  | .arr _ t => PutC t ∧ PutC (.int 4 false ⟨#[117, 52]⟩)
  | .named _ t => PutC t
  | .cst t => PutC t
  | .comp _ _ _ n _ py _ _ => ∀ i, i < n → PutC (py i)
  | _ => True

/-- Behind the entry of put: what is known of the list since. -/
structure Pre (W : World) (lb mb : Nat) (ixv : Value) (hb n : Nat) (v : Value) (xs : List Value) (m : Value → Option Value) (U : Nat → Prop) (w : World) (b : Nat) (X : Nat → Prop) (n' : Nat) (v' : Value) (xs' : List Value) (m' : Value → Option Value) (w' : World) : Prop where
  st : LSt W lb mb ixv hb X n' v' xs' m' (fun i => U i ∨ i = n) w'
  ge : n + 1 ≤ n'
  row : ∀ j, j < 8 * n → xs'[j]? = xs[j]?
  sub : ∀ x u, m x = some u → m' x = some u
  me : m' (.pointer (some ⟨b, 0, none⟩)) = some (.int .i64 ((n + 1 : Nat) : Int))
  kept : Kept (Wr lb mb v) w w'
  own : ∀ g, v'.ownBlock = some g → v.ownBlock = some g ∨ w.heap.size ≤ g
section
variable {W w w' w2 : World} {lb mb : Nat} {ixv : Value} {hb n : Nat} {v : Value} {xs : List Value} {m : Value → Option Value} {U : Nat → Prop} {b : Nat} {X X' : Nat → Prop} {n' : Nat} {v' : Value} {xs' : List Value} {m' : Value → Option Value}
theorem Pre.move (p : Pre W lb mb ixv hb n v xs m U w b X n' v' xs' m' w') (hk : ∀ g, g < w'.heap.size → ¬ X g → w2.heap[g]? = w'.heap[g]?) (hbl : Below W.heap.size w' w2) (hX : ∀ g, X' g → (X g ∨ w'.heap.size ≤ g) ∧ g < w2.heap.size) (hw : ∀ g, g < w.heap.size → w2.heap[g]? = w'.heap[g]?) :
    Pre W lb mb ixv hb n v xs m U w b X' n' v' xs' m' w2 :=
  ⟨p.st.move hk hbl hX, p.ge, p.row, p.sub, p.me, ⟨Nat.le_trans p.kept.1 hbl.size, fun g hg hd => (hw g hg).trans (p.kept.2 g hg hd)⟩, p.own⟩
theorem Pre.write (p : Pre W lb mb ixv hb n v xs m U w b X n' v' xs' m' w') {q : Addr} (hq : X q.block) (hw : w.heap.size ≤ q.block) (u : Value) : Pre W lb mb ixv hb n v xs m U w b X n' v' xs' m' (w'.setCell q u) :=
  p.move (fun g _ hd => Below.heap_setCell w' q u g (fun x => hd (x ▸ hq))) ((Below.refl _ _).setCell (p.st.xs _ hq).1 u) (fun g hg => ⟨.inl hg, by simpa using (p.st.xs g hg).2.1⟩) (fun g hg => Below.heap_setCell w' q u g (by omega))
theorem Pre.new (p : Pre W lb mb ixv hb n v xs m U w b X n' v' xs' m' w') (hbl : Below w'.heap.size w' w2) (hX : ∀ g, X' g → (X g ∨ w'.heap.size ≤ g) ∧ g < w2.heap.size) : Pre W lb mb ixv hb n v xs m U w b X' n' v' xs' m' w2 :=
  p.move (fun g hg _ => hbl.block g hg) (hbl.mono p.st.old.size) hX (fun g hg => hbl.block g (Nat.lt_of_lt_of_le hg p.kept.1))
theorem Pre.less (p : Pre W lb mb ixv hb n v xs m U w b X n' v' xs' m' w') (hX : ∀ g, X' g → X g) : Pre W lb mb ixv hb n v xs m U w b X' n' v' xs' m' w' :=
  p.move (fun _ _ _ => rfl) (Below.refl _ _) (fun g hg => ⟨.inl (hX g hg), (p.st.xs g (hX g hg)).2.1⟩) (fun _ _ => rfl)
theorem Pre.call {x : Value} {c : Nat} {e : Ending} (p : Pre W lb mb ixv hb n v xs m U w b X n' v' xs' m' w') (h : PutPost W lb mb ixv hb X n' v' xs' m' (fun i => U i ∨ i = n) w' x c e w2) :
    ∃ i n2 v2 xs2 m2, e = .returned (.int .i64 ((i + 1 : Nat) : Int)) ∧ Pre W lb mb ixv hb n v xs m U w b X n2 v2 xs2 m2 w2 ∧ n2 ≤ n' + c ∧ (∀ x u, m' x = some u → m2 x = some u) ∧ m2 x = some (.int .i64 ((i + 1 : Nat) : Int)) ∧ Kept (Wr lb mb v') w' w2 ∧ i < n2 := by
  obtain ⟨i, n2, v2, xs2, m2, rfl, st, hi, h1, h2, h3, h4, h5, h6, h7⟩ := h
  have hge := p.ge
  refine ⟨i, n2, v2, xs2, m2, rfl, ⟨st, by omega, fun j hj => (h3 j (by omega)).trans (p.row j hj), fun x u hx => h4 _ _ (p.sub x u hx), h4 _ _ p.me, p.kept.trans h6 (fun g hg hd => ?_), fun g hg => ?_⟩, h2, h4, h5, h6, hi⟩
  · rcases hd with hd | hd | hd
    · exact .inl hd
    · exact .inr (.inl hd)
    · rcases p.own g hd with h | h
      · exact .inr (.inr h)
      · omega
  · rcases h7 g hg with h | h
    · exact p.own g h
    · exact .inr (Nat.le_trans p.kept.1 h)
/-- Behind the switch of put: its row is known. -/
def Mid (W : World) (lb mb : Nat) (ixv : Value) (hb n : Nat) (v : Value) (xs : List Value) (m : Value → Option Value) (U : Nat → Prop) (w : World) (b : Nat) (X : Nat → Prop) (xk c : Nat) (w' : World) : Prop :=
  ∃ n' v' xs' m' a0 a1 a2 a3 a4 a5 a6 a7, Pre W lb mb ixv hb n v xs m U w b X n' v' xs' m' w' ∧ n' ≤ n + c ∧ Blk w' xk #[a0, a1, a2, a3, a4, a5, a6, a7] 72 ∧ (#[a0, a1, a2, a3, a4, a5, a6, a7] : Array Value).all (·.oneCell') = true ∧
    ∀ zs : List Value, (∀ j, j < 8 → zs[8 * n + j]? = [a0, a1, a2, a3, a4, a5, a6, a7][j]?) → RowOk W w' (fun g => Wr lb mb v' g ∨ X g) zs m' ixv b n
theorem lrow_of {zs : List Value} {i : Nat} {k : Int} {nm : ByteArray} {sz en fl of ix : Int} {mv : Value}
    (h : ∀ j, j < 8 → zs[8 * i + j]? = [Value.int .i64 k, .string nm, .int .i64 sz, .int .i64 en, .int .i64 fl, .int .i64 of, .int .i64 ix, mv][j]?) : LRow zs i k nm sz en fl of ix mv :=
  ⟨h 0 (by omega), h 1 (by omega), h 2 (by omega), h 3 (by omega), h 4 (by omega), h 5 (by omega), h 6 (by omega), h 7 (by omega)⟩
/-- The row is put into the list: put's end. -/
theorem Mid.done {xk c : Nat} (hU : ¬ U n) (h : Mid W lb mb ixv hb n v xs m U w b X xk c w') :
    ∃ g n' cap a0 a1 a2 a3 a4 a5 a6 a7, Blk w' lb #[.slice (some ⟨g, 0, none⟩) n' cap] 40 ∧ n < n' ∧ Blk w' xk #[a0, a1, a2, a3, a4, a5, a6, a7] 72 ∧ (#[a0, a1, a2, a3, a4, a5, a6, a7] : Array Value).all (·.oneCell') = true ∧ w'.there g (n * 8) 8 ∧
      PutPost W lb mb ixv hb X n v xs m U w (.pointer (some ⟨b, 0, none⟩)) c (.returned (.int .i64 ((n + 1 : Nat) : Int))) (w'.setCells g (n * 8) [a0, a1, a2, a3, a4, a5, a6, a7]) := by
  obtain ⟨n', v', xs', m', a0, a1, a2, a3, a4, a5, a6, a7, p, hc, hblk, h1, hok⟩ := h
  have hge := p.ge
  obtain ⟨g, cap, rfl, hgl⟩ := own_form p.st.own (by omega)
  have hlen := p.st.own.1
  refine ⟨g, n', cap, a0, a1, a2, a3, a4, a5, a6, a7, p.st.lst, by omega, hblk, h1, fun j hj => ?_, ?_⟩
  · have hx : (xs'[n * 8 + j]?).isSome = true := by rw [List.getElem?_eq_getElem (by omega)]; rfl
    obtain ⟨u, hu⟩ := Option.isSome_iff_exists.1 hx
    exact ⟨by rw [own_cell p.st.own hu]; rfl, p.st.own.frozenAt _⟩
  · have hl := LSt.leave (vs := [a0, a1, a2, a3, a4, a5, a6, a7]) p.st (by omega) hU p.me rfl (hok _ (fun j hj => setL_in [a0, a1, a2, a3, a4, a5, a6, a7] xs' (8 * n) j (by simp; omega) hj))
    rw [Nat.mul_comm n 8]
    exact ⟨n, n', _, _, m', rfl, hl.1, by omega, by omega, hc, fun j hj => (setL_out _ _ _ _ (by omega)).trans (p.row j hj), p.sub, p.me, p.kept.trans hl.2 (fun g' hg' hd => by
      rcases hd with hd | hd | hd
      · exact .inl hd
      · exact .inr (.inl hd)
      · rcases p.own g' hd with h | h
        · exact .inr (.inr h)
        · omega), p.own⟩
end
theorem Blk.inj6 {w : World} {b : Nat} {a0 a1 a2 a3 a4 a5 c0 c1 c2 c3 c4 c5 : Value} {t t' : TypeId} (h : Blk w b #[a0, a1, a2, a3, a4, a5] t) (h' : Blk w b #[c0, c1, c2, c3, c4, c5] t') : a0 = c0 ∧ a1 = c1 ∧ a2 = c2 ∧ a3 = c3 ∧ a4 = c4 ∧ a5 = c5 := by
  unfold Blk at h h'
  rw [h] at h'
  have e : (a0 = c0 ∧ a1 = c1 ∧ a2 = c2 ∧ a3 = c3 ∧ a4 = c4 ∧ a5 = c5) ∧ t = t' := by simpa using h'
  exact e.1
theorem Blk.eight {w : World} {b : Nat} {a0 a1 a2 a3 a4 a5 a6 a7 : Value} {t : TypeId} (h : Blk w b #[a0, a1, a2, a3, a4, a5, a6, a7] t) :
    w.cell? ⟨b, 0, none⟩ = some a0 ∧ w.cell? ⟨b, 1, none⟩ = some a1 ∧ w.cell? ⟨b, 2, none⟩ = some a2 ∧ w.cell? ⟨b, 3, none⟩ = some a3 ∧ w.cell? ⟨b, 4, none⟩ = some a4 ∧ w.cell? ⟨b, 5, none⟩ = some a5 ∧ w.cell? ⟨b, 6, none⟩ = some a6 ∧ w.cell? ⟨b, 7, none⟩ = some a7 :=
  ⟨h.cell 0, h.cell 1, h.cell 2, h.cell 3, h.cell 4, h.cell 5, h.cell 6, h.cell 7⟩
/-- The kinds of types, as put takes them apart. -/
theorem put_cases {W : World} {lb mb hb : Nat} {b : Nat} {t : Ty} {k : Int} {nm : ByteArray} {sz : Int} {sg : Bool} {o : Option Addr} {pv : Value} (r : Rep W (Ex lb mb hb) b t) (hk : Kids t) (hg : Good t) (hbk : Blk W b #[.int .i64 k, .string nm, .int .i64 sz, .bool sg, .pointer o, pv] 38) :
    (k = 1 ∧ 0 ≤ sz ∧ t.cnt = 1) ∨
    (((k = 2 ∨ k = 8 ∨ k = 10) ∧ (k == 1) = false ∧ (k == 3) = false ∧ (k == 4) = false ∧ (k == 5) = false ∧ (k == 6) = false) ∧ ∃ c u, o = some ⟨c, 0, none⟩ ∧ Rep W (Ex lb mb hb) c u ∧ Good u ∧ PutC u ∧ t.cnt = u.cnt + 1) ∨
    (k = 3 ∧ ∃ c u, o = some ⟨c, 0, none⟩ ∧ Rep W (Ex lb mb hb) c u ∧ Good u ∧ PutC u ∧ PutC (.int 4 false ⟨#[117, 52]⟩) ∧ t.cnt = u.cnt + 2) ∨
    (k = 6 ∧ t.cnt = 1 ∧ ∃ (n : Nat) (vn : Nat → ByteArray) (vv : Nat → Int) (xs : List Value), n ≤ 1000 ∧ W.ownsRow 0 56 5 pv n xs ∧ (∀ g, pv.ownBlock = some g → ¬ Ex lb mb hb g) ∧ ∀ i, i < n → PRow xs i (vn i) (.pointer none) 0 0 (vv i)) ∨
    (((k = 4 ∨ k = 5) ∧ (k == 1) = false ∧ (k == 3) = false) ∧ ∃ (n : Nat) (pn : Nat → ByteArray) (py : Nat → Ty) (pa pb : Nat → Nat) (xs : List Value) (pc : Nat → Nat), n ≤ 1000 ∧ W.ownsRow 0 56 5 pv n xs ∧ (∀ g, pv.ownBlock = some g → ¬ Ex lb mb hb g) ∧ (∀ i, i < n → PRow xs i (pn i) (.pointer (some ⟨pc i, 0, none⟩)) ((pa i : Nat) : Int) ((pb i : Nat) : Int) 0) ∧
      (∀ i, i < n → Rep W (Ex lb mb hb) (pc i) (py i) ∧ Good (py i) ∧ PutC (py i)) ∧ t.cnt = sumTo (fun i => (py i).cnt) n + 1) := by
  cases r with
  | int h hd =>
    obtain ⟨e0, _, e2, _⟩ := hbk.inj6 h
    simp only [Value.int.injEq, true_and] at e0 e2
    exact .inl ⟨e0, by omega, rfl⟩
  | ptr h hd r =>
    obtain ⟨e0, _, _, _, e4, _⟩ := hbk.inj6 h
    simp only [Value.int.injEq, true_and, Value.pointer.injEq] at e0 e4
    subst e0
    cases hg with
    | ptr hg => exact .inr (.inl ⟨⟨.inl rfl, rfl, rfl, rfl, rfl, rfl⟩, _, _, e4, r, hg, hk, rfl⟩)
  | arr h hd r =>
    obtain ⟨e0, _, _, _, e4, _⟩ := hbk.inj6 h
    simp only [Value.int.injEq, true_and, Value.pointer.injEq] at e0 e4
    cases hg with
    | arr hn hg => exact .inr (.inr (.inl ⟨e0, _, _, e4, r, hg, hk.1, hk.2, rfl⟩))
  | named h hd r =>
    obtain ⟨e0, _, _, _, e4, _⟩ := hbk.inj6 h
    simp only [Value.int.injEq, true_and, Value.pointer.injEq] at e0 e4
    subst e0
    cases hg with
    | named hi hg => exact .inr (.inl ⟨⟨.inr (.inl rfl), rfl, rfl, rfl, rfl, rfl⟩, _, _, e4, r, hg, hk, rfl⟩)
  | cst h hd r =>
    obtain ⟨e0, _, _, _, e4, _⟩ := hbk.inj6 h
    simp only [Value.int.injEq, true_and, Value.pointer.injEq] at e0 e4
    subst e0
    cases hg with
    | cst hi hg => exact .inr (.inl ⟨⟨.inr (.inr rfl), rfl, rfl, rfl, rfl, rfl⟩, _, _, e4, r, hg, hk, rfl⟩)
  | enm h hd ho hv hr =>
    obtain ⟨e0, _, _, _, _, e5⟩ := hbk.inj6 h
    simp only [Value.int.injEq, true_and] at e0
    subst e5
    cases hg with
    | enm hn => exact .inr (.inr (.inr (.inl ⟨e0, rfl, _, _, _, _, hn, ho, hv, hr⟩)))
  | @comp b sz' n un nm' pn py pa pb v xs pc h hd ho hv hr hc =>
    obtain ⟨e0, _, _, _, _, e5⟩ := hbk.inj6 h
    simp only [Value.int.injEq, true_and] at e0
    subst e5
    cases hg with
    | comp hs hn ha hg =>
      refine .inr (.inr (.inr (.inr ⟨?_, n, pn, py, pa, pb, xs, pc, hn, ho, hv, hr, fun i hi => ⟨hc i hi, hg i hi, hk i hi⟩, rfl⟩)))
      cases un
      · subst e0; exact ⟨.inl rfl, rfl, rfl⟩
      · subst e0; exact ⟨.inr rfl, rfl, rfl⟩
/-- The blocks of a call of put of its own: its row, the row's parts. -/
def MemX (X : Nat → Prop) (xk : Nat) (mv : Value) (g : Nat) : Prop := X g ∨ g = xk ∨ mv.ownBlock = some g
/-- A row whose parts are being put. -/
structure MemSt (W : World) (lb mb : Nat) (ixv : Value) (hb n : Nat) (v : Value) (xs : List Value) (m : Value → Option Value) (U : Nat → Prop) (w : World) (b : Nat) (X : Nat → Prop) (xk : Nat) (k0 : Int) (nm : ByteArray) (sz fl : Int)
    (k n' : Nat) (v' : Value) (xs' : List Value) (m' : Value → Option Value) (mv : Value) (ys : List Value) (w' : World) : Prop where
  pre : Pre W lb mb ixv hb n v xs m U w b (MemX X xk mv) n' v' xs' m' w'
  blk : Blk w' xk #[.int .i64 k0, .string nm, .int .i64 sz, .int .i64 0, .int .i64 fl, .int .i64 0, .int .i64 0, mv] 72
  own : w'.ownsRow (xk + 1) 74 5 mv k ys
  lo : w.heap.size ≤ xk
  xlt : ∀ g, X g → g < w.heap.size
section
variable {W w w' w2 : World} {lb mb : Nat} {ixv : Value} {hb n : Nat} {v : Value} {xs : List Value} {m : Value → Option Value} {U : Nat → Prop} {b : Nat} {X : Nat → Prop} {xk : Nat} {k0 : Int} {nm : ByteArray} {sz fl : Int} {k n' : Nat} {v' : Value} {xs' : List Value} {m' : Value → Option Value} {mv : Value} {ys : List Value}
theorem MemSt.new (st : MemSt W lb mb ixv hb n v xs m U w b X xk k0 nm sz fl k n' v' xs' m' mv ys w') (hbl : Below w'.heap.size w' w2) : MemSt W lb mb ixv hb n v xs m U w b X xk k0 nm sz fl k n' v' xs' m' mv ys w2 :=
  ⟨st.pre.new hbl (fun g hg => ⟨.inl hg, Nat.lt_of_lt_of_le (st.pre.st.xs g hg).2.1 hbl.size⟩), st.blk.old hbl, ownsRow_of st.own fun g _ hl => hbl.block g hl, st.lo, st.xlt⟩
theorem MemSt.call {x : Value} {c : Nat} {e : Ending} (st : MemSt W lb mb ixv hb n v xs m U w b X xk k0 nm sz fl k n' v' xs' m' mv ys w') (h : PutPost W lb mb ixv hb (MemX X xk mv) n' v' xs' m' (fun i => U i ∨ i = n) w' x c e w2) :
    ∃ i n2 v2 xs2 m2, e = .returned (.int .i64 ((i + 1 : Nat) : Int)) ∧ MemSt W lb mb ixv hb n v xs m U w b X xk k0 nm sz fl k n2 v2 xs2 m2 mv ys w2 ∧ n2 ≤ n' + c ∧ (∀ x u, m' x = some u → m2 x = some u) ∧ m2 x = some (.int .i64 ((i + 1 : Nat) : Int)) ∧ Kept (Wr lb mb v') w' w2 := by
  obtain ⟨i, n2, v2, xs2, m2, rfl, p9, hn2, hm2, hme2, hk9, _⟩ := st.pre.call h
  have hX : ∀ g, MemX X xk mv g → ¬ Wr lb mb v' g := fun g hg => st.pre.st.apart hg
  exact ⟨i, n2, v2, xs2, m2, rfl, ⟨p9, hk9.blk st.blk (hX _ (.inr (.inl rfl))), hk9.own st.own (fun g hg => hX _ (.inr (.inr hg))), st.lo, st.xlt⟩, hn2, hm2, hme2, hk9⟩
theorem MemSt.push {w0 w1 : World} {g cap : Nat} {news : List Value} (st : MemSt W lb mb ixv hb n v xs m U w b X xk k0 nm sz fl k n' v' xs' m' mv ys w') (h0 : Below w'.heap.size w' w0) (ha : Appended w0 (xk + 1) 74 5 mv k 1 ys news g cap w1) :
    MemSt W lb mb ixv hb n v xs m U w b X xk k0 nm sz fl (k + 1) n' v' xs' m' (.slice (some ⟨g, 0, none⟩) (k + 1) cap) (ys ++ news) (w1.setCell ⟨xk, 7, none⟩ (.slice (some ⟨g, 0, none⟩) (k + 1) cap)) := by
  have hown0 : w0.ownsRow (xk + 1) 74 5 mv k ys := ownsRow_of st.own fun g _ hl => h0.block g hl
  have hs0 := h0.size
  have hs1 := ha.2.1.size
  have hg1 : xk + 1 ≤ g := (ha.1.lt g rfl).1
  have hml : ∀ g, mv.ownBlock = some g → xk + 1 ≤ g ∧ g < w'.heap.size := fun g hg => st.own.lt g hg
  have hWx : W.heap.size ≤ xk := (st.pre.st.xs xk (.inr (.inl rfl))).1
  have hstay : ∀ h, h < w'.heap.size → h ≠ xk → mv.ownBlock ≠ some h → (w1.setCell ⟨xk, 7, none⟩ (.slice (some ⟨g, 0, none⟩) (k + 1) cap)).heap[h]? = w'.heap[h]? := fun h hh h1 h2 => by
    rw [Below.heap_setCell _ _ _ _ h1, ha.2.1.block h (by omega) (fun x => h2 x.symm), h0.block h hh]
  refine ⟨st.pre.move (fun h hh hd => hstay h hh (fun x => hd (.inr (.inl x))) (fun x => hd (.inr (.inr x)))) ?_ (fun h hh => ⟨?_, ?_⟩) (fun h hh => ?_), ?_, ?_, st.lo, st.xlt⟩
  · exact (ha.below hown0 (h0.mono (by have := st.pre.st.old.size; omega)) (by have := st.pre.st.old.size; omega) (by omega)).setCell hWx _
  · rcases hh with hh | hh | hh
    · exact .inl (.inl hh)
    · exact .inl (.inr (.inl hh))
    · have e : g = h := by simpa [Value.ownBlock] using hh
      rcases ha.2.2.1 with x | x
      · exact .inl (.inr (.inr (by rw [x, e])))
      · exact .inr (by omega)
  · rcases hh with hh | hh | hh
    · have := (st.pre.st.xs h (.inl hh)).2.1; simp; omega
    · have := (st.pre.st.xs h (.inr (.inl hh))).2.1; simp; omega
    · have e : g = h := by simpa [Value.ownBlock] using hh
      have := ha.2.2.2
      simp; omega
  · have := st.pre.kept.1
    have := st.lo
    exact hstay h (by omega) (by omega) (fun x => by have := hml h x; omega)
  · exact ((st.blk.old h0).app ha hown0 (Nat.lt_succ_self _)).set 7 _
  · exact ownsRow_setCell ha.1 (fun x => by simp [Value.ownBlock] at x; omega) _
theorem MemSt.hv (st : MemSt W lb mb ixv hb n v xs m U w b X xk k0 nm sz fl k n' v' xs' m' mv ys w') : ∀ g, mv.ownBlock = some g → ¬ (Wr lb mb v' g ∨ X g) := by
  intro g hg hd
  have hl := st.own.lt g hg
  rcases hd with hd | hd
  · exact st.pre.st.apart (.inr (.inr hg)) hd
  · have := st.xlt g hd
    have := st.lo
    omega
end
theorem MemSt.start {W w w' : World} {lb mb : Nat} {ixv : Value} {hb n : Nat} {v : Value} {xs : List Value} {m : Value → Option Value} {U : Nat → Prop} {b : Nat} {X : Nat → Prop} {xk : Nat} {k0 : Int} {nm : ByteArray} {sz fl : Int} {n' : Nat} {v' : Value} {xs' : List Value} {m' : Value → Option Value}
    (p : Pre W lb mb ixv hb n v xs m U w b (fun g => X g ∨ g = xk) n' v' xs' m' w') (hbk : Blk w' xk #[.int .i64 k0, .string nm, .int .i64 sz, .int .i64 0, .int .i64 fl, .int .i64 0, .int .i64 0, .slice none 0 0] 72) (lo : w.heap.size ≤ xk) (xlt : ∀ g, X g → g < w.heap.size) :
    MemSt W lb mb ixv hb n v xs m U w b X xk k0 nm sz fl 0 n' v' xs' m' (.slice none 0 0) [] w' :=
  ⟨p.less (fun g hg => by
    rcases hg with h | h | h
    · exact .inl h
    · exact .inr h
    · simp [Value.ownBlock] at h), hbk, World.ownsRow_nil _ _ _ _, lo, xlt⟩
/-- The parts of an enumeration that were put; those of a struct. -/
def EnmRows (W : World) (pv : Value) (k : Nat) (ys : List Value) : Prop := ∀ j, j < k → ∃ nm o a b v, PartAt W pv j nm o a b v ∧ PRow ys j nm (.int .i64 0) 0 0 v
def CompRows (W : World) (pv : Value) (m : Value → Option Value) (k : Nat) (ys : List Value) : Prop := ∀ j, j < k → ∃ nm o a b v q, PartAt W pv j nm o a b v ∧ m o = some (.int .i64 (q : Nat)) ∧ PRow ys j nm (.int .i64 (q : Nat)) a b 0
theorem EnmRows.push {W : World} {pv : Value} {k : Nat} {ys : List Value} (h : EnmRows W pv k ys) (hl : ys.length = k * 5) {nm : ByteArray} {o : Value} {a b v : Int} (hp : PartAt W pv k nm o a b v) :
    EnmRows W pv (k + 1) (ys ++ [.string nm, .int .i64 0, .int .i64 0, .int .i64 0, .int .i64 v]) := by
  intro j hj
  by_cases h1 : j < k
  · obtain ⟨nm, o, a, b, v, h2, h3⟩ := h j h1
    exact ⟨nm, o, a, b, v, h2, h3.left hl h1⟩
  · obtain rfl : j = k := by omega
    exact ⟨_, _, _, _, _, hp, PRow.last _ _ _ _ _ hl⟩
theorem CompRows.push {W : World} {pv : Value} {m m' : Value → Option Value} {k : Nat} {ys : List Value} (h : CompRows W pv m k ys) (hm : ∀ x u, m x = some u → m' x = some u) (hl : ys.length = k * 5) {nm : ByteArray} {o : Value} {a b v : Int} {q : Nat} (hp : PartAt W pv k nm o a b v) (hq : m' o = some (.int .i64 (q : Nat))) :
    CompRows W pv m' (k + 1) (ys ++ [.string nm, .int .i64 q, .int .i64 a, .int .i64 b, .int .i64 0]) := by
  intro j hj
  by_cases h1 : j < k
  · obtain ⟨nm, o, a, b, v, q, h2, h3, h4⟩ := h j h1
    exact ⟨nm, o, a, b, v, q, h2, hm _ _ h3, h4.left hl h1⟩
  · obtain rfl : j = k := by omega
    exact ⟨_, _, _, _, _, q, hp, hq, PRow.last _ _ _ _ _ hl⟩
theorem PutC.int_cnt : (Ty.int 4 false ⟨#[117, 52]⟩).cnt = 1 := rfl
#print axioms Mid.done
end Go.Proofs.YtfilbgmbmlmdbaaGreatDoor
