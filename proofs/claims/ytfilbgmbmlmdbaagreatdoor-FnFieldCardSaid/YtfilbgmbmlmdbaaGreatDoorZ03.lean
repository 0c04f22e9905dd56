/- Types of fields by numbers at both depths: the contract of typeOf whole. -/
import Derived.Test.YtfilbgmbmlmdbaaGreatDoorZ02
import Derived.Deep.DeepCutAuto
import Derived.Deep.CutBlock
set_option linter.unusedSimpArgs false
set_option linter.unusedVariables false
set_option maxRecDepth 1000000
set_option maxHeartbeats 16000000
namespace Go.Proofs.YtfilbgmbmlmdbaaGreatDoor
open Go.RowKit
theorem IntT.flat {t : Ty} (h : IntT t) : 1 ≤ t.bytes ∧ t.bytes ≤ 8 ∧ ∀ n u, t.behind ≠ .arr n u := by
 obtain ⟨sz, sg, nm, rfl, hs, _⟩ := h
 exact ⟨by show 1 ≤ sz; omega, by show sz ≤ 8; omega, fun n u h => by cases h⟩
theorem Leaf.facts {t : Ty} (h : Leaf t) : 1 ≤ t.bytes ∧ t.bytes ≤ 48 ∧ Flat t := by
 cases h with
 | int h => have := h.flat; exact ⟨by omega, by omega, fun n u h => absurd h (this.2.2 n u)⟩
 | ptr h => exact ⟨by show 1 ≤ 8; omega, by show 8 ≤ 48; omega, fun n u h => by cases h⟩
 | enm h => obtain ⟨nm, sg, n, vn, vv, rfl, _⟩ := h; exact ⟨by show 1 ≤ 4; omega, by show 4 ≤ 48; omega, fun n u h => by cases h⟩
 | @arr n t h h1 h6 =>
  have hf := h.flat
  have h2 : n * t.bytes ≤ 6 * 8 := Nat.mul_le_mul h6 hf.2.1
  have h3 : 1 * 1 ≤ n * t.bytes := Nat.mul_le_mul h1 hf.1
  exact ⟨by show 1 ≤ n * t.bytes; omega, by show n * t.bytes ≤ 48; omega, fun m u e => by cases e; exact ⟨hf.2.2, by omega⟩⟩
 | named h hn => have := h.flat; exact ⟨this.1, by have := this.2.1; show _ ≤ 48; simp only [Ty.bytes]; omega, fun n u e => absurd e (this.2.2 n u)⟩
 | cst h => have := h.flat; exact ⟨this.1, by have := this.2.1; show _ ≤ 48; simp only [Ty.bytes]; omega, fun n u e => absurd e (this.2.2 n u)⟩
theorem Leaf.int_size {sz : Nat} {sg : Bool} {im : ByteArray} (h : Leaf (.int sz sg im)) : sz = 1 ∨ sz = 2 ∨ sz = 4 ∨ sz = 8 := by
 cases h with
 | int h => obtain ⟨_, _, _, e, hs, _⟩ := h; cases e; exact hs
 | enm h => obtain ⟨_, _, _, _, _, e, _⟩ := h; cases e
theorem Leaf.arr_elem {m : Nat} {u : Ty} (h : Leaf (.arr m u)) : IntT u := by
 cases h with
 | int h => obtain ⟨_, _, _, e, _⟩ := h; cases e
 | enm h => obtain ⟨_, _, _, _, _, e, _⟩ := h; cases e
 | arr h _ _ => exact h
def FT (t : Ty) : Prop := Leaf t ∨ StrT Leaf 48 168 ⟨#[105, 110]⟩ t
theorem StrT.facts {F : Ty → Prop} {M mx : Nat} {nm : ByteArray} {t : Ty} (h : StrT F M mx nm t) : t.bytes ≤ mx ∧ Flat t ∧ (∀ sz sg im, t ≠ .int sz sg im) ∧ ∀ m u, t ≠ .arr m u := by
 obtain ⟨sz, n, pn, py, pa, pb, rfl, _, hs, _⟩ := h
 exact ⟨hs, (fun n u e => by cases e), (fun _ _ _ e => by cases e), (fun _ _ e => by cases e)⟩
theorem u32s_two (w : World) (B : Nat) (x y : Int) (hx : 0 ≤ x ∧ x < 4294967296) (hy : 0 ≤ y ∧ y < 4294967296) (hb : Blk w B #[.int .u32 x, .int .u32 y] 49) : U32s w (.slice (some ⟨B, 0, none⟩) 2 2) 2 := by
 refine ⟨_, 2, rfl, .inr ⟨B, 0, rfl, hb.lt, fun i hi => ?_⟩⟩
 rcases (by omega : i = 0 ∨ i = 1) with rfl | rfl
 ·exact ⟨x, hb.cell 0, hx⟩
 ·exact ⟨y, hb.cell 1, hy⟩
theorem typeC_zero : TypeC 0 Leaf := by
 intro z w h0 h1
 by_cases hz : z % 9 = 8
 ·go_enter Tryz.func17, Tryz.ntmps17
  go_wp2_with fail
  refine (intOf_int (z / 16) _ (by omega) (by omega)).mono ?_
  rintro e w1 ⟨b, t, rfl, r, ht, hb⟩
  go_wp2_with fail
  go_ret
  exact ⟨_, _, rfl, r, .int ht, hb⟩
 ·exact typeOf_leaf 0 Leaf (fun _ h => h) z w h0 h1 hz
theorem number_any (k n lb : Nat) (v : Value) (w : World) (hk : k ≤ 1000) (hn : n ≤ 100) (hl : w.cell? ⟨lb, 0, none⟩ = some v) (hs : U32s w v n) :
  Calls Tryz.prog 24 #[.int .i64 k, .pointer (some ⟨lb, 0, none⟩)] w fun e w' => ∃ z : Int, e = .returned (.int .u32 z) ∧ 0 ≤ z ∧ z < 4294967296 ∧ ∃ nd, w' = w.drewN nd := by
 obtain ⟨a, cap, rfl, hs⟩ := hs
 by_cases h0 : n = 0
 ·subst h0
  clear hs
  go_enter Tryz.func24, Tryz.ntmps24
  go_wp2
  go_ret
  exact ⟨_, rfl, by omega, by omega, 0, rfl⟩
 ·obtain ⟨b, off, rfl, hb, hc⟩ := hs.resolve_left h0
  have hm : k % n < n := Nat.mod_lt _ (by omega)
  obtain ⟨z, hz, hz0, hz1⟩ := hc (k % n) hm
  have hn0 : ((n : Int) == 0) = false := by simpa using h0
  clear hc hs
  go_enter Tryz.func24, Tryz.ntmps24
  go_wp2_with fail
  go_quiet (fail)
  go_wp2
  go_ret
  exact ⟨_, rfl, Int.emod_nonneg _ (by decide), Int.emod_lt_of_pos _ (by decide), nq, rfl⟩
abbrev Nowhere : Nat → Prop := fun _ => False
structure FldSt (W : World) (lv : Value) (B q : Nat) (v : Value) (xs : List Value) (fn : Nat → ByteArray) (fy : Nat → Ty) (fa fb fc : Nat → Nat) (w : World) : Prop where
 own : w.ownsRow B 56 5 v q xs
 row : ∀ i, i < q → PRow xs i (fn i) (.pointer (some ⟨fc i, 0, none⟩)) (fa i) (fb i) 0
 rep : ∀ i, i < q → Rep W Nowhere (fc i) (fy i)
 ok : ∀ i, i < q → (fn i).size = 1 ∧ FT (fy i)
 old : Below W.heap.size W w
 base : B = W.heap.size + 1
 cap : Blk w W.heap.size #[lv] 22
def FldLoop (W : World) (lv : Value) (B n gk : Nat) (s5 s23 : Value) (w : World) : Prop :=
 ∃ i q v xs fn fy fa fb fc, FldSt W lv B q v xs fn fy fa fb fc w ∧ i ≤ n ∧ q ≤ 2 * i ∧ n - i ≤ gk ∧ v = s5 ∧ s23 = .int .i64 (i : Nat)
theorem Rep.comp_inv {w : World} {D : Nat → Prop} {b sz n : Nat} {un : Bool} {nm : ByteArray} {pn : Nat → ByteArray} {py : Nat → Ty} {pa pb : Nat → Nat} (r : Rep w D b (.comp un nm sz n pn py pa pb)) :
  ∃ (v : Value) (xs : List Value) (pc : Nat → Nat), Blk w b #[.int .i64 (if un then 5 else 4), .string nm, .int .i64 sz, .bool false, .pointer none, v] 38 ∧ w.ownsRow 0 56 5 v n xs ∧
   (∀ i, i < n → PRow xs i (pn i) (.pointer (some ⟨pc i, 0, none⟩)) (pa i) (pb i) 0) ∧ ∀ i, i < n → Rep w D (pc i) (py i) := by
 cases r with
 | comp h hd ho hv hr hc => exact ⟨_, _, _, h, ho, hr, hc⟩
theorem own_form {w : World} {base e size n : Nat} {v : Value} {xs : List Value} (h : w.ownsRow base e size v n xs) (hn : 0 < n) :
  ∃ g cap, v = .slice (some ⟨g, 0, none⟩) n cap ∧ g < w.heap.size := by
 obtain ⟨g, cap, rfl, _, hl⟩ := h.form hn
 exact ⟨g, cap, rfl, hl⟩
theorem own_slice {w : World} {base e size n : Nat} {v : Value} {xs : List Value} (h : w.ownsRow base e size v n xs) : ∃ a cap, v = .slice a n cap := by
 rcases h.2 with ⟨rfl, rfl⟩ | ⟨g, cap, cur, rfl, _⟩
 ·exact ⟨_, _, rfl⟩
 ·exact ⟨_, _, rfl⟩
theorem own_cell {w : World} {base e size n g cap : Nat} {xs : List Value} (h : w.ownsRow base e size (.slice (some ⟨g, 0, none⟩) n cap) n xs) {j : Nat} {u : Value} (hj : xs[j]? = some u) : w.cell? ⟨g, j, none⟩ = some u := by
 have := h.cells (g := g) rfl j u hj
 have hadd : (⟨g, 0, none⟩ : Addr).add j = ⟨g, j, none⟩ := by unfold Addr.add; split <;> simp_all
 rwa [hadd] at this
theorem row_cells {w : World} {base e n g cap i : Nat} {xs : List Value} {nm : ByteArray} {of : Value} {a b v : Int} (h : w.ownsRow base e 5 (.slice (some ⟨g, 0, none⟩) n cap) n xs) (hr : PRow xs i nm of a b v) :
  w.cell? ⟨g, i * 5, none⟩ = some (.string nm) ∧ w.cell? ⟨g, i * 5 + 1, none⟩ = some of ∧ w.cell? ⟨g, i * 5 + 2, none⟩ = some (.int .i64 a) ∧ w.cell? ⟨g, i * 5 + 3, none⟩ = some (.int .i64 b) ∧ w.cell? ⟨g, i * 5 + 4, none⟩ = some (.int .i64 v) := by
 obtain ⟨h0, h1, h2, h3, h4⟩ := hr
 rw [Nat.mul_comm] at h0 h1 h2 h3 h4
 exact ⟨own_cell h h0, own_cell h h1, own_cell h h2, own_cell h h3, own_cell h h4⟩
theorem U32s.old {w w' : World} {v : Value} {n : Nat} (h : U32s w v n) (hb : Below w.heap.size w w') : U32s w' v n := by
 obtain ⟨a, cap, rfl, h⟩ := h
 refine ⟨a, cap, rfl, ?_⟩
 rcases h with h | ⟨b, off, rfl, hl, hc⟩
 ·exact .inl h
 ·refine .inr ⟨b, off, rfl, Nat.lt_of_lt_of_le hl hb.size, fun i hi => ?_⟩
  obtain ⟨z, hz, h0, h1⟩ := hc i hi
  exact ⟨z, by rw [hb.cell (p := ⟨b, off + i, none⟩) hl]; exact hz, h0, h1⟩
theorem FldSt.start (W : World) (lv : Value) (fn : Nat → ByteArray) (fy : Nat → Ty) (fa fb fc : Nat → Nat) {g : Nat} (hg : g = W.heap.size + 1) :
  FldSt W lv (W.heap.size + 1) 0 (.slice (some ⟨g, 0, none⟩) 0 0) [] fn fy fa fb fc ((W.alloc (.cells #[lv] 22)).alloc (.cells #[] 56)) := by
 subst hg
 refine ⟨⟨rfl, .inr ⟨_, 0, #[], rfl, Nat.le_refl _, ?_, Nat.le_refl _, Nat.zero_le _, rfl, rfl⟩⟩, fun i h => by omega, fun i h => by omega, fun i h => by omega, ((Below.refl _ _).alloc (Nat.le_refl _) _).alloc (by simp) _, rfl, (Blk.new _ _ _).alloc _⟩
 exact Blk.newAt _ _ _ (by simp)
theorem flat_step {W w w1 : World} {lv : Value} {B q : Nat} {v : Value} {xs : List Value} {fn : Nat → ByteArray} {fy : Nat → Ty} {fa fb fc : Nat → Nat} (st : FldSt W lv B q v xs fn fy fa fb fc w) {w0 : World}
  (h0 : Below w.heap.size w w0) {m g cap : Nat} {news : List Value} {gn : Nat → ByteArray} {gy : Nat → Ty} {ga gb gc : Nat → Nat}
  (ha : Appended w0 B 56 5 v q m xs news g cap w1) (hrow : ∀ i, i < m → PRow news i (gn i) (.pointer (some ⟨gc i, 0, none⟩)) (ga i) (gb i) 0)
  (hrep : ∀ i, i < m → Rep W Nowhere (gc i) (gy i)) (hok : ∀ i, i < m → (gn i).size = 1 ∧ FT (gy i)) :
  ∃ fn' fy' fa' fb' fc', FldSt W lv B (q + m) (.slice (some ⟨g, 0, none⟩) (q + m) cap) (xs ++ news) fn' fy' fa' fb' fc' w1 := by
 have hl := st.own.1
 have hown : w0.ownsRow B 56 5 v q xs := ownsRow_of st.own fun g _ hl => h0.block g hl
 have hB := st.base
 refine ⟨fun i => if i < q then fn i else gn (i - q), fun i => if i < q then fy i else gy (i - q), fun i => if i < q then fa i else ga (i - q), fun i => if i < q then fb i else gb (i - q), fun i => if i < q then fc i else gc (i - q),
  ⟨ha.1, fun i hi => ?_, fun i hi => ?_, fun i hi => ?_, ?_, hB, ?_⟩⟩
 ·by_cases h : i < q
  ·simp only [if_pos h]; exact (st.row i h).left hl h
  ·simp only [if_neg h]
   obtain ⟨r0, r1, r2, r3, r4⟩ := hrow (i - q) (by omega)
   refine ⟨?_, ?_, ?_, ?_, ?_⟩ <;> (rw [List.getElem?_append_right (by omega)])
   ·rw [show 5 * i - xs.length = 5 * (i - q) by omega]; exact r0
   ·rw [show 5 * i + 1 - xs.length = 5 * (i - q) + 1 by omega]; exact r1
   ·rw [show 5 * i + 2 - xs.length = 5 * (i - q) + 2 by omega]; exact r2
   ·rw [show 5 * i + 3 - xs.length = 5 * (i - q) + 3 by omega]; exact r3
   ·rw [show 5 * i + 4 - xs.length = 5 * (i - q) + 4 by omega]; exact r4
 ·by_cases h : i < q
  ·simp only [if_pos h]; exact st.rep i h
  ·simp only [if_neg h]; exact hrep _ (by omega)
 ·by_cases h : i < q
  ·simp only [if_pos h]; exact st.ok i h
  ·simp only [if_neg h]; exact hok _ (by omega)
 ·exact ha.below hown (st.old.trans (h0.mono st.old.size)) (by have := st.old.size; have := h0.size; omega) (by omega)
 ·have hc := st.cap.old h0
  exact hc.app ha hown (by omega)
theorem rows_one {xs : List Value} {n : Nat} {nm : Nat → ByteArray} {of : Nat → Value} {a b v : Nat → Int} (hl : xs.length = n * 5) (hof : ∀ i, (of i).oneCell' = true) (h : ∀ i, i < n → PRow xs i (nm i) (of i) (a i) (b i) (v i)) : ∀ u ∈ xs, u.oneCell' = true := by
 intro u hu
 obtain ⟨j, hj, rfl⟩ := List.getElem_of_mem hu
 obtain ⟨h0, h1, h2, h3, h4⟩ := h (j / 5) (by omega)
 have hg : xs[j]? = some xs[j] := List.getElem?_eq_getElem hj
 rcases (by omega : j = 5 * (j / 5) ∨ j = 5 * (j / 5) + 1 ∨ j = 5 * (j / 5) + 2 ∨ j = 5 * (j / 5) + 3 ∨ j = 5 * (j / 5) + 4) with e | e | e | e | e
 ·rw [← e, hg] at h0; rw [Option.some.inj h0]; rfl
 ·rw [← e, hg] at h1; rw [Option.some.inj h1]; exact hof _
 ·rw [← e, hg] at h2; rw [Option.some.inj h2]; rfl
 ·rw [← e, hg] at h3; rw [Option.some.inj h3]; rfl
 ·rw [← e, hg] at h4; rw [Option.some.inj h4]; rfl
theorem wpList_app_row {P : Program} {ops : Array Oper} {rest : List Oper} {o : Oper} {a : Act} {w : World} {Q : Exit → Act → World → Prop} {t e size bytes : Nat} (H : ElemOk P t e size bytes) (s x : Operand) (hgd : o.guard = none) (ho : o.op = .call { callee := .builtin .append, args := #[s, x], argTypes := #[t, t] })
  (base : Nat) (v : Value) (n : Nat) (xs : List Value) (hs : a.eval s = v) (hown : w.ownsRow base e size v n xs)
  (base2 B : Nat) (m c : Nat) (news : List Value) (hx : a.eval x = .slice (some ⟨B, 0, none⟩) m c) (hB : w.ownsRow base2 e size (.slice (some ⟨B, 0, none⟩) m c) m news) (h1 : ∀ u ∈ news, u.oneCell' = true)
  (hm : 0 < m) (h : ∀ g cap w', Appended w base e size v n m xs news g cap w' → wpList P ops Q rest (a.put o.dst (.slice (some ⟨g, 0, none⟩) (n + m) cap)) w')
  (hbytes : (n + m) * bytes ≤ 140737488355328) (h63 : n + m ≤ maxLen) (hbase : base ≤ w.heap.size) : wpList P ops Q (o :: rest) a w := by
 obtain ⟨i, z, ht, hi, hz, hsz, hby, hzs, h0⟩ := H
 exact wpList_append_lies w hgd s x t ho base e i z size bytes ht hi hz hsz hby hzs h0 v n xs hs hown ⟨B, 0, none⟩ m c news hx hB.1 (hB.cells (g := B) rfl) h1 hm h63 hbytes hbase _ rfl
  (fun g cap w' a1 a2 a3 a4 => h g cap w' ⟨a1, a2, a3, a4⟩)
theorem name_full {b : ByteArray} (h : b.size = 1) : b.toList.isEmpty = false := by
 have e : b.toList.length = b.size := by rw [ByteArray.toList_eq]; rfl
 cases hb : b.toList with
 | nil => rw [hb] at e; simp at e; omega
 | cons _ _ => rfl
theorem name_nil {b : ByteArray} (h : b.size = 0) : b.toList.isEmpty = true := by
 have e : b.toList.length = b.size := by rw [ByteArray.toList_eq]; rfl
 cases hb : b.toList with
 | nil => rfl
 | cons _ _ => rw [hb] at e; simp at e; omega
structure PSt (w0 : World) (tb : Nat) (v : Value) (pk : Nat) (qn : ByteArray) (c : Nat) (y : Ty) (a bits : Nat) (w : World) : Prop where
 old : Below w0.heap.size w0 w
 lo : w0.heap.size ≤ pk
 blk : Blk w pk #[.string qn, .pointer (some ⟨c, 0, none⟩), .int .i64 a, .int .i64 bits, .int .i64 0] 56
 ty : FT y
 rep : Rep w (fun b => b = tb ∨ v.ownBlock = some b ∨ b = pk) c y
 bits : bits = 0 ∨ ∃ sz sg im, y = .int sz sg im ∧ 1 ≤ bits ∧ bits ≤ 8 * sz
theorem Rep.from_old {w w' : World} {D : Nat → Prop} {c : Nat} {y : Ty} (r : Rep w Nowhere c y) (hb : Below w.heap.size w w') (hD : ∀ b, D b → w.heap.size ≤ b) : Rep w' D c y :=
 r.keep (fun b hl _ => hb.block b hl) (fun b hl hx => by have := hD b hx; omega)
def TurnLoop (W : World) (tb : Nat) (nm : ByteArray) (q gk : Nat) (s9 s55 : Value) (w : World) : Prop :=
 ∃ k c at_ v xs pn py pa pb pc, StrSt W Nowhere FT 200 at_ tb nm c v xs pn py pa pb pc w ∧ c ≤ k ∧ k ≤ q ∧ at_ ≤ k * 1856 ∧ q - k ≤ gk ∧ s9 = .int .i64 (at_ : Nat) ∧ s55 = .int .i64 (k : Nat)
theorem PSt.of {W w0 w1 w : World} {tb : Nat} {nm : ByteArray} {c0 : Nat} {v : Value} {xs : List Value} {pn : Nat → ByteArray} {py : Nat → Ty} {pa pb pc : Nat → Nat} {A : Nat} {pk : Nat} {qn : ByteArray} {c : Nat} {y : Ty} {a bits : Nat}
  (su : StrSt W Nowhere FT 200 A tb nm c0 v xs pn py pa pb pc w0) (h1 : Below w0.heap.size w0 w1) (h2 : Below w0.heap.size w1 w) (lo : w0.heap.size ≤ pk)
  (blk : Blk w pk #[.string qn, .pointer (some ⟨c, 0, none⟩), .int .i64 a, .int .i64 bits, .int .i64 0] 56) (ty : FT y)
  (r : Rep w (fun b => b ≤ pk) c y ∨ ∃ w', Rep w' Nowhere c y ∧ Below w'.heap.size w' w ∧ w'.heap.size ≤ tb)
  (hb : bits = 0 ∨ ∃ sz sg im, y = .int sz sg im ∧ 1 ≤ bits ∧ bits ≤ 8 * sz) : PSt w0 tb v pk qn c y a bits w := by
 refine ⟨h1.trans h2, lo, blk, ty, ?_, hb⟩
 have hown : ∀ g, v.ownBlock = some g → tb + 1 ≤ g ∧ g < w0.heap.size := fun g hg => su.own.lt g hg
 rcases r with r | ⟨w', r, hb', hlt⟩
 ·refine r.weaken fun b _ hx => ?_
  have hl := su.blk.lt
  rcases hx with hx | hx | hx
  ·show b ≤ pk; omega
  ·have := hown b hx; show b ≤ pk; omega
  ·show b ≤ pk; omega
 ·refine r.from_old hb' fun b hx => ?_
  have hl := su.blk.lt
  rcases hx with hx | hx | hx
  ·omega
  ·have := hown b hx; omega
  ·omega
theorem Rep.set_far {w : World} {D D' : Nat → Prop} {c : Nat} {y : Ty} (r : Rep w D c y) {p : Addr} (hp : D p.block) (hD : ∀ b, b < w.heap.size → D' b → D b) (u : Value) : Rep (w.setCell p u) D' c y :=
 r.keep (fun b _ hd => Below.heap_setCell w p u b (fun x => hd (by rw [x]; exact hp))) hD
theorem Rep.set_lt {w : World} {D : Nat → Prop} {c : Nat} {y : Ty} {n : Nat} (r : Rep w (· < n) c y) {p : Addr} (hp : p.block < n) (hD : ∀ b, D b → b < n) (u : Value) : Rep (w.setCell p u) D c y :=
 r.set_far hp (fun b _ h => hD b h) u
theorem Rep.int_size {w : World} {D : Nat → Prop} {c : Nat} {y : Ty} (r : Rep w D c y) (h : IntT y) : ∃ sz : Nat, (sz = 1 ∨ sz = 2 ∨ sz = 4 ∨ sz = 8) ∧ (∃ sg im, y = .int sz sg im) ∧ w.cell? ⟨c, 2, none⟩ = some (.int .i64 sz) := by
 obtain ⟨sz, sg, im, rfl, hs, _⟩ := h
 cases r with
 | int h hd => exact ⟨sz, hs, ⟨sg, im, rfl⟩, h.cell 2⟩
theorem FT.arr {m : Nat} {u : Ty} (h : FT (.arr m u)) : IntT u := by
 rcases h with h | h
 ·exact h.arr_elem
 ·exact absurd rfl (h.facts.2.2.2 m u)
theorem FT.al8 {t : Ty} (h : FT t) : Al8 t := by
 rcases h with h | ⟨_, _, _, _, _, _, rfl, _⟩
 ·exact h.al8
 ·exact .inl rfl
theorem FT.size {sz : Nat} {sg : Bool} {im : ByteArray} (h : FT (.int sz sg im)) : sz = 1 ∨ sz = 2 ∨ sz = 4 ∨ sz = 8 := by
 rcases h with h | h
 ·exact h.int_size
 ·exact absurd rfl (h.facts.2.2.1 sz sg im)
theorem bool_four (x : Int) : (x == 0) = true ∨ ((x == 0) = false ∧ (x == 1) = true) ∨ ((x == 0) = false ∧ (x == 1) = false ∧ (x == 2) = true) ∨ ((x == 0) = false ∧ (x == 1) = false ∧ (x == 2) = false ∧ (x == 3) = true) ∨
  ((x == 0) = false ∧ (x == 1) = false ∧ (x == 2) = false ∧ (x == 3) = false) := by
 cases x == 0 <;> cases x == 1 <;> cases x == 2 <;> cases x == 3 <;> simp
theorem below_set (w : World) (B i : Nat) (u : Value) : Below B w (w.setCell ⟨B, i, none⟩ u) := (Below.refl B w).setCell (p := ⟨B, i, none⟩) (Nat.le_refl B) u
theorem PSt.arr {W w0 we w : World} {tb : Nat} {nm : ByteArray} {c0 : Nat} {v : Value} {xs : List Value} {pn : Nat → ByteArray} {py : Nat → Ty} {pa pb pc : Nat → Nat} {A : Nat} {qn : ByteArray} {c ac an n : Nat} {y au : Ty} {a : Nat} {zv : Int}
  (su : StrSt W Nowhere FT 200 A tb nm c0 v xs pn py pa pb pc w0) (pe : PSt w0 tb v w0.heap.size qn c y a 0 we) (hry : Rep w Nowhere c (.arr an au)) (hw : Below w.heap.size w we) (hwtb : w.heap.size ≤ tb)
  (hk4 : we.cell? ⟨c, 4, none⟩ = some (.pointer (some ⟨ac, 0, none⟩))) (hau : IntT au) (hz : zv = n) (h1 : 1 ≤ n) (h6 : n ≤ 6) :
  PSt w0 tb v w0.heap.size qn we.heap.size (.arr n au) a 0 ((we.setCell ⟨w0.heap.size, 1, none⟩ (.pointer (some ⟨we.heap.size, 0, none⟩))).alloc (.cells #[.int .i64 3, .string ⟨#[]⟩, .int .i64 zv, .bool false, .pointer (some ⟨ac, 0, none⟩), .slice none 0 0] 38)) := by
 subst hz
 have hown : ∀ g, v.ownBlock = some g → tb + 1 ≤ g ∧ g < w0.heap.size := fun g hg => su.own.lt g hg
 obtain ⟨c', _, _, h4, r'⟩ := hry.elem
 have hcl := hry.lt
 rw [← hw.cell (p := ⟨c, 4, none⟩) hcl, hk4] at h4
 simp only [Option.some.injEq, Value.pointer.injEq, Addr.mk.injEq, and_true] at h4
 subst h4
 have hsz : (we.setCell ⟨w0.heap.size, 1, none⟩ (.pointer (some ⟨we.heap.size, 0, none⟩))).heap.size = we.heap.size := by simp
 have hpl := pe.blk.lt
 have hbel : Below w0.heap.size we ((we.setCell ⟨w0.heap.size, 1, none⟩ (.pointer (some ⟨we.heap.size, 0, none⟩))).alloc (.cells #[.int .i64 3, .string ⟨#[]⟩, .int .i64 n, .bool false, .pointer (some ⟨ac, 0, none⟩), .slice none 0 0] 38)) :=
  (below_set _ _ _ _).alloc (by rw [hsz]; exact Nat.le_of_lt hpl) _
 have hss := su.blk.lt
 refine ⟨pe.old.trans hbel, Nat.le_refl _, (pe.blk.set 1 _).alloc _, .inl (.arr hau h1 h6), .arr (Blk.newAt _ _ _ hsz.symm) ?_ ?_, .inl rfl⟩
 ·rintro (hx | hx | hx)
  ·omega
  ·have := hown _ hx; omega
  ·omega
 ·refine r'.from_old (hw.trans (hbel.mono (by omega))) fun b hx => ?_
  rcases hx with hx | hx | hx
  ·omega
  ·have := hown b hx; omega
  ·omega
theorem FT.flat {t : Ty} (h : FT t) : t.bytes ≤ 200 ∧ Flat t := by
 rcases h with h | h
 ·have := h.facts; exact ⟨by omega, this.2.2⟩
 ·have := h.facts; exact ⟨by omega, this.2.1⟩
def Placed (y : Ty) (a1 a bits : Nat) : Prop := ∃ x, a = a1 + x ∧ x ≤ 63 ∧ ((bits = 0 ∧ x = 0) ∨ ∃ sz sg im, y = .int sz sg im ∧ 1 ≤ bits ∧ x + bits ≤ 8 * sz)
theorem Placed.ok {y : Ty} {a1 a bits : Nat} (h : Placed y a1 a bits) (hy : FT y) (h64 : a1 % 64 = 0) : BitsOk y a bits ∧ BitsOk y (a % 64) bits := by
 obtain ⟨x, rfl, hx, h | ⟨sz, sg, im, rfl, hb, hxb⟩⟩ := h
 ·rw [h.2, Nat.add_zero, h64]
  exact ⟨.inl ⟨h.1, hy.al8.mod h64⟩, .inl ⟨h.1, Nat.zero_mod _⟩⟩
 ·have hs := hy.size
  have e1 : (a1 + x) % (8 * sz) = x := by rcases hs with rfl | rfl | rfl | rfl <;> omega
  have e2 : (a1 + x) % 64 % (8 * sz) = x := by rcases hs with rfl | rfl | rfl | rfl <;> omega
  exact ⟨.inr ⟨sz, sg, im, rfl, by omega, by omega⟩, .inr ⟨sz, sg, im, rfl, by omega, by omega⟩⟩
theorem PSt.pre {W w0 w : World} {tb : Nat} {nm : ByteArray} {c0 : Nat} {v : Value} {xs : List Value} {pn : Nat → ByteArray} {py : Nat → Ty} {pa pb pc : Nat → Nat} {A : Nat} {pk : Nat} {qn : ByteArray} {c : Nat} {y : Ty} {a bits : Nat}
  (su : StrSt W Nowhere FT 200 A tb nm c0 v xs pn py pa pb pc w0) (ps : PSt w0 tb v pk qn c y a bits w) (hq : qn.size = 1) (hb : BitsOk y a bits) :
  StrPre W Nowhere FT 200 A tb nm c0 v xs pn py pa pb pc w0.heap.size pk qn c y a bits w :=
 ⟨su.move ps.old, ps.blk, ps.rep.weaken (fun b _ hx => by rcases hx with hx | hx | hx; exact hx.elim; exact .inl hx; exact .inr (.inl hx)), .inl ⟨hq, ps.ty, hb⟩, ps.old.size⟩
theorem PSt.inner {W w0 we w : World} {tb : Nat} {nm : ByteArray} {c0 : Nat} {v : Value} {xs : List Value} {pn : Nat → ByteArray} {py : Nat → Ty} {pa pb pc : Nat → Nat} {A : Nat} {pk : Nat} {qn : ByteArray} {c : Nat} {y : Ty} {a a2 x2 bits gb ib sz : Nat}
  (su : StrSt W Nowhere FT 200 A tb nm c0 v xs pn py pa pb pc w0) (ps : PSt w0 tb v pk qn c y a bits we) (hq : qn.size = 1) (hb : BitsOk y x2 bits) (hx2 : x2 ≤ 63) (hsz : sz ≤ 216) (h64 : a2 % 64 = 0)
  (hold : ∀ b, b < we.heap.size → b ≠ pk → w.heap[b]? = we.heap[b]?) (hB : Below w0.heap.size we w)
  (hp : Blk w pk #[.string ⟨#[]⟩, .pointer (some ⟨ib, 0, none⟩), .int .i64 a2, .int .i64 0, .int .i64 0] 56)
  (hg : Blk w gb #[.string qn, .pointer (some ⟨c, 0, none⟩), .int .i64 x2, .int .i64 bits, .int .i64 0] 56) (hgl : we.heap.size ≤ gb)
  (hi : Blk w ib #[.int .i64 4, .string ⟨#[]⟩, .int .i64 sz, .bool false, .pointer none, .slice (some ⟨gb, 0, none⟩) 1 1] 38) (hil : we.heap.size ≤ ib) :
  ∃ y', StrPre W Nowhere FT 200 A tb nm c0 v xs pn py pa pb pc w0.heap.size pk ⟨#[]⟩ ib y' a2 0 w := by
 have hown : ∀ g, v.ownBlock = some g → tb + 1 ≤ g ∧ g < w0.heap.size := fun g hg => su.own.lt g hg
 have hss := su.blk.lt
 have hos := ps.old.size
 refine ⟨.comp false ⟨#[]⟩ sz 1 (fun _ => qn) (fun _ => y) (fun _ => x2) (fun _ => bits), ⟨su.move (ps.old.trans hB), hp, ?_, ?_, Nat.le_trans ps.old.size hB.size⟩⟩
 ·refine .comp (v := .slice (some ⟨gb, 0, none⟩) 1 1) (xs := [.string qn, .pointer (some ⟨c, 0, none⟩), .int .i64 x2, .int .i64 bits, .int .i64 0]) (pc := fun _ => c) hi ?_ ⟨rfl, .inr ⟨gb, 1, _, rfl, Nat.zero_le _, hg, Nat.le_refl _, by decide, rfl, rfl⟩⟩ ?_ (fun i hi2 => ?_) (fun i hi2 => ?_)
  ·rintro (hx | hx | hx)
   ·exact hx
   ·omega
   ·have := hown _ hx; omega
  ·intro g hg' hx
   have e : gb = g := by simpa [Value.ownBlock] using hg'
   rcases hx with hx | hx | hx
   ·exact hx
   ·omega
   ·have := hown _ hx; omega
  ·obtain rfl : i = 0 := by omega
   exact ⟨rfl, rfl, rfl, rfl, rfl⟩
  ·refine ps.rep.keep (fun b hbl hd => hold b hbl (fun x => hd (.inr (.inr x)))) (fun b _ hx => ?_)
   rcases hx with hx | hx | hx
   ·exact hx.elim
   ·exact .inl hx
   ·exact .inr (.inl hx)
 ·exact .inr ⟨rfl, ⟨false, sz, 1, _, _, _, _, rfl, Nat.le_refl _, by omega, hsz, fun i _ => ⟨hq, ps.ty, hb, by omega⟩⟩, rfl, h64⟩
theorem PSt.set_at {w0 w : World} {tb : Nat} {v : Value} {qn : ByteArray} {c : Nat} {y : Ty} {a bits a' : Nat} {z : Value} (ps : PSt w0 tb v w0.heap.size qn c y a bits w) (hz : z = .int .i64 (a' : Nat)) (n : Nat) :
  PSt w0 tb v w0.heap.size qn c y a' bits ((w.drewN n).setCell ⟨w0.heap.size, 2, none⟩ z) := by
 subst hz
 exact ⟨(below_drewN ps.old n).trans (below_set _ _ _ _), Nat.le_refl _, (ps.blk.drewN n).set 2 _, ps.ty, (ps.rep.drewN n).set_far (p := ⟨w0.heap.size, 2, none⟩) (.inr (.inr rfl)) (fun _ _ h => h) _, ps.bits⟩
theorem PSt.drewN {w0 w : World} {tb pk : Nat} {v : Value} {qn : ByteArray} {c : Nat} {y : Ty} {a bits : Nat} (ps : PSt w0 tb v pk qn c y a bits w) (n : Nat) : PSt w0 tb v pk qn c y a bits (w.drewN n) :=
 ⟨below_drewN ps.old n, ps.lo, ps.blk.drewN n, ps.ty, ps.rep.drewN n, ps.bits⟩
theorem PSt.put_at {w0 w : World} {tb : Nat} {v : Value} {qn : ByteArray} {c : Nat} {y : Ty} {a bits a' : Nat} {z : Value} (ps : PSt w0 tb v w0.heap.size qn c y a bits w) (hz : z = .int .i64 (a' : Nat)) :
  PSt w0 tb v w0.heap.size qn c y a' bits (w.setCell ⟨w0.heap.size, 2, none⟩ z) := by
 subst hz
 exact ⟨ps.old.trans (below_set _ _ _ _), Nat.le_refl _, ps.blk.set 2 _, ps.ty, ps.rep.set_far (p := ⟨w0.heap.size, 2, none⟩) (.inr (.inr rfl)) (fun _ _ h => h) _, ps.bits⟩
theorem Placed.le {y : Ty} {a1 a bits : Nat} (h : Placed y a1 a bits) : a1 ≤ a ∧ a ≤ a1 + 64 * ((y.bytes + 7) / 8) := by
 obtain ⟨x, rfl, hx, h | ⟨sz, sg, im, rfl, hb, hxb⟩⟩ := h
 ·omega
 ·have e : (Ty.int sz sg im).bytes = sz := rfl
  rw [e]; omega
theorem PSt.inner_at {W w0 we : World} {tb : Nat} {nm : ByteArray} {c0 : Nat} {v : Value} {xs : List Value} {pn : Nat → ByteArray} {py : Nat → Ty} {pa pb pc : Nat → Nat} {A : Nat} {qn : ByteArray} {c : Nat} {y : Ty} {a a2 bits sz : Nat} {z2 zx zs : Int}
  (su : StrSt W Nowhere FT 200 A tb nm c0 v xs pn py pa pb pc w0) (ps : PSt w0 tb v w0.heap.size qn c y a bits we) (hq : qn.size = 1) (hb : BitsOk y (a % 64) bits) (hsz : sz ≤ 216) (hz2 : z2 = a2) (hzx : zx = (a % 64 : Nat)) (hzs : zs = sz) (h64 : a2 % 64 = 0) :
  ∃ y', StrPre W Nowhere FT 200 A tb nm c0 v xs pn py pa pb pc w0.heap.size w0.heap.size ⟨#[]⟩ (we.heap.size + 1) y' a2 0
   (((((((we.setCell ⟨w0.heap.size, 0, none⟩ (.string ⟨#[]⟩)).setCell ⟨w0.heap.size, 1, none⟩ (.pointer (some ⟨we.heap.size + 1, 0, none⟩))).setCell ⟨w0.heap.size, 2, none⟩ (.int .i64 z2)).setCell ⟨w0.heap.size, 3, none⟩ (.int .i64 0)).setCell ⟨w0.heap.size, 4, none⟩ (.int .i64 0)).alloc
    (.cells #[.string qn, .pointer (some ⟨c, 0, none⟩), .int .i64 zx, .int .i64 bits, .int .i64 0] 56)).alloc (.cells #[.int .i64 4, .string ⟨#[]⟩, .int .i64 zs, .bool false, .pointer none, .slice (some ⟨we.heap.size, 0, none⟩) 1 1] 38)) := by
 subst hz2 hzx hzs
 have hpl := ps.blk.lt
 have h5 := ((((ps.blk.set 0 (.string ⟨#[]⟩)).set 1 (.pointer (some ⟨we.heap.size + 1, 0, none⟩))).set 2 (.int .i64 a2)).set 3 (.int .i64 0)).set 4 (.int .i64 0)
 have hB5 : Below w0.heap.size we ((((((we.setCell ⟨w0.heap.size, 0, none⟩ (.string ⟨#[]⟩)).setCell ⟨w0.heap.size, 1, none⟩ (.pointer (some ⟨we.heap.size + 1, 0, none⟩))).setCell ⟨w0.heap.size, 2, none⟩ (.int .i64 a2)).setCell ⟨w0.heap.size, 3, none⟩ (.int .i64 0)).setCell ⟨w0.heap.size, 4, none⟩ (.int .i64 0))) :=
  ((((below_set _ _ _ _).trans (below_set _ _ _ _)).trans (below_set _ _ _ _)).trans (below_set _ _ _ _)).trans (below_set _ _ _ _)
 have hhold : ∀ b, b ≠ w0.heap.size → ((((((we.setCell ⟨w0.heap.size, 0, none⟩ (.string ⟨#[]⟩)).setCell ⟨w0.heap.size, 1, none⟩ (.pointer (some ⟨we.heap.size + 1, 0, none⟩))).setCell ⟨w0.heap.size, 2, none⟩ (.int .i64 a2)).setCell ⟨w0.heap.size, 3, none⟩ (.int .i64 0)).setCell ⟨w0.heap.size, 4, none⟩ (.int .i64 0))).heap[b]? = we.heap[b]? := by
  intro b n1
  rw [Below.heap_setCell _ _ _ _ n1, Below.heap_setCell _ _ _ _ n1, Below.heap_setCell _ _ _ _ n1, Below.heap_setCell _ _ _ _ n1, Below.heap_setCell _ _ _ _ n1]
 have hs5 : ((((((we.setCell ⟨w0.heap.size, 0, none⟩ (.string ⟨#[]⟩)).setCell ⟨w0.heap.size, 1, none⟩ (.pointer (some ⟨we.heap.size + 1, 0, none⟩))).setCell ⟨w0.heap.size, 2, none⟩ (.int .i64 a2)).setCell ⟨w0.heap.size, 3, none⟩ (.int .i64 0)).setCell ⟨w0.heap.size, 4, none⟩ (.int .i64 0))).heap.size = we.heap.size := by simp
 revert h5 hB5 hhold hs5
 generalize ((((((we.setCell ⟨w0.heap.size, 0, none⟩ (.string ⟨#[]⟩)).setCell ⟨w0.heap.size, 1, none⟩ (.pointer (some ⟨we.heap.size + 1, 0, none⟩))).setCell ⟨w0.heap.size, 2, none⟩ (.int .i64 a2)).setCell ⟨w0.heap.size, 3, none⟩ (.int .i64 0)).setCell ⟨w0.heap.size, 4, none⟩ (.int .i64 0))) = w5
 intro h5 hB5 hhold hs5
 refine ps.inner su hq hb (Nat.le_of_lt_succ (Nat.mod_lt _ (by omega))) hsz h64 (gb := we.heap.size) (fun b hb hne => ?_) ?_ ((h5.alloc _).alloc _) ((Blk.newAt _ _ _ hs5.symm).alloc _) (Nat.le_refl _) (Blk.newAt _ _ _ (by simp [hs5])) (Nat.le_succ _)
 ·rw [Below.heap_alloc _ _ _ (by simp [hs5]; omega), Below.heap_alloc _ _ _ (by rw [hs5]; exact hb), hhold b hne]
 ·exact (hB5.alloc (by rw [hs5]; omega) _).alloc (by simp [hs5]; omega) _
def Turned (W : World) (nm : ByteArray) (e : Ending) (w' : World) : Prop :=
 ∃ (wq w2 : World) (tb A c : Nat) (v : Value) (xs : List Value) (pn : Nat → ByteArray) (py : Nat → Ty) (pa pb pc : Nat → Nat) (z : Value), e = .returned (.pointer (some ⟨tb, 0, none⟩)) ∧ StrSt wq Nowhere FT 200 A tb nm c v xs pn py pa pb pc w2 ∧
  c ≤ 40 ∧ A ≤ 100000 ∧ Below W.heap.size W wq ∧ z = .int .i64 ((A + 63) / 64 * 8 : Nat) ∧ w' = w2.setCell ⟨tb, 2, none⟩ z
end Go.Proofs.YtfilbgmbmlmdbaaGreatDoor
