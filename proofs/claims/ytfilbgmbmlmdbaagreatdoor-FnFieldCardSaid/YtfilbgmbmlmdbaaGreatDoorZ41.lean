/- Types of fields by numbers, with the names of the parts of the small struct. Nothing is claimed here. -/
import Derived.Test.YtfilbgmbmlmdbaaGreatDoorZ40
import Derived.Test.YtfilbgmbmlmdbaaGreatDoorZ03
import Derived.Test.YtfilbgmbmlmdbaaGreatDoorZ16
import Derived.Test.YtfilbgmbmlmdbaaGreatDoorZ14
import Derived.Test.YtfilbgmbmlmdbaaGreatDoorZ13
import Derived.Test.YtfilbgmbmlmdbaaGreatDoorZ15
set_option linter.unusedSimpArgs false
set_option linter.unusedVariables false
set_option maxRecDepth 1000000
set_option maxHeartbeats 16000000
namespace Go.Proofs.YtfilbgmbmlmdbaaGreatDoor
open Go.RowKit
def FN (t : Ty) : Prop := Leaf t ∨ StrN ((0 : Int) = 1) Leaf 48 168 ⟨#[105, 110]⟩ ⟨#[120, 121, 122]⟩ t
theorem FN.ft {t : Ty} (h : FN t) : FT t := by
 rcases h with h | h
 ·exact .inl h
 ·exact .inr h.str
def StructN (d : Int) (F : Ty → Prop) (M : Nat) : Prop := ∀ (nm ns : ByteArray), ns.size ≤ 10 → ∀ n, n ≤ 8 → ∀ (sv : Value) (w : World), U32s w sv n →
 Calls Tryz.prog 7 #[sv, .string nm, .string ns, .int .i64 d] w (Made w (StrN (d = 1) F M (n * (M + 32) + 8) nm ns))
theorem typeN_one (hS : StructN 0 Leaf 48) : TypeC 1 FN := by
 intro z w h0 h1
 by_cases hz : z % 9 = 8
 ·go_enter Tryz.func17, Tryz.ntmps17
  go_wp2_with fail
  refine (hS ⟨#[105, 110]⟩ ⟨#[120, 121, 122]⟩ (by decide) 2 (by omega) _ _ (u32s_two _ w.heap.size _ _ (by omega) (by omega) (Blk.new _ _ _))).mono ?_
  rintro e w1 ⟨b, t, rfl, r, ht, hb⟩
  go_wp2_with fail
  go_ret
  exact ⟨_, _, rfl, r.weaken (fun b _ h => by simp; omega), .inr ht, ((Below.refl _ _).alloc (Nat.le_refl _) _).trans (hb.mono (by simp))⟩
 ·exact typeOf_leaf 1 FN (fun _ h => .inl h) z w h0 h1 hz
theorem structN_zero : StructN 0 Leaf 48 := fun nm ns hns n hn sv w hs =>
 structN_any 0 (.inl rfl) Leaf 48 (by omega) (fun _ h => ⟨h.facts.2.1, h.facts.2.2⟩) typeC_zero (fun _ h => .int h) (fun _ _ _ h => h.int_size) (fun _ _ h => h.arr_elem) (fun _ h => h.alB) nm ns hns n hn sv w hs
theorem FN.arr {m : Nat} {u : Ty} (h : FN (.arr m u)) : IntT u := h.ft.arr
theorem FN.alB {t : Ty} (h : FN t) : AlB t := by
 rcases h with h | ⟨_, _, _, _, _, _, rfl, _⟩
 ·exact h.alB
 ·exact fun _ => .inl rfl
theorem FN.al8 {t : Ty} (h : FN t) : Al8 t := by
 rcases h with h | ⟨_, _, _, _, _, _, rfl, _⟩
 ·exact h.al8
 ·exact .inl rfl
theorem FN.size {sz : Nat} {sg : Bool} {im : ByteArray} (h : FN (.int sz sg im)) : sz = 1 ∨ sz = 2 ∨ sz = 4 ∨ sz = 8 := h.ft.size
theorem FN.flat {t : Ty} (h : FN t) : t.bytes ≤ 200 ∧ Flat t := h.ft.flat
theorem structN_one : StructN 1 FN 200 := fun nm ns hns n hn sv w hs =>
 structN_any 1 (.inr rfl) FN 200 (by omega) (fun t ht => ht.flat) (typeN_one structN_zero) (fun t ht => .inl (.int ht)) (fun sz sg im ht => ht.size) (fun m u ht => ht.arr) (fun t ht => ht.alB) nm ns hns n hn sv w hs
def Letters (ns : ByteArray) : Prop := ∀ x y, x < y → y < ns.size → ns.extract x (x + 1) ≠ ns.extract y (y + 1)
def FNms (ns : ByteArray) (x q : Nat) (fn : Nat → ByteArray) : Prop := ∃ fx : Nat → Nat, (∀ i, i < q → fn i = ns.extract (fx i) (fx i + 1) ∧ fx i + 1 ≤ fx (i + 1)) ∧ fx q ≤ x
theorem FNms.zero (ns : ByteArray) (x : Nat) (fn : Nat → ByteArray) : FNms ns x 0 fn := ⟨fun _ => 0, fun i h => by omega, Nat.zero_le _⟩
theorem FNms.step {ns : ByteArray} {x q a b : Nat} {fn fn' : Nat → ByteArray} (h : FNms ns x q fn) (hxa : x ≤ a) (hab : a + 1 ≤ b) (h1 : ∀ i, i < q → fn' i = fn i) (h2 : fn' q = ns.extract a (a + 1)) : FNms ns b (q + 1) fn' := by
 obtain ⟨fx, h, hx⟩ := h
 refine ⟨fun i => if i < q then fx i else if i = q then a else b, fun i hi => ?_, ?_⟩
 ·by_cases hiq : i < q
  ·have := h i hiq
   simp only [if_pos hiq]
   refine ⟨(h1 i hiq).trans this.1, ?_⟩
   by_cases h3 : i + 1 < q
   ·rw [if_pos h3]; exact this.2
   ·have e : i + 1 = q := by omega
    rw [if_neg h3, if_pos e]
    rw [e] at this
    omega
  ·obtain rfl : i = q := by omega
   simp only [if_neg hiq, if_true, if_neg (show ¬ i + 1 < i by omega), if_neg (show ¬ i + 1 = i by omega)]
   exact ⟨h2, hab⟩
 ·simp only [if_neg (show ¬ q + 1 < q by omega), if_neg (show ¬ q + 1 = q by omega)]
  exact Nat.le_refl _
theorem FNms.len {ns : ByteArray} {x q : Nat} {fn : Nat → ByteArray} (h : FNms ns x q fn) : q ≤ x := by
 obtain ⟨fx, h, hq⟩ := h
 have : ∀ i, i ≤ q → i ≤ fx i := by
  intro i
  induction i with
  | zero => intro _; exact Nat.zero_le _
  | succ i ih => intro hi; have := ih (by omega); have := (h i (by omega)).2; omega
 exact Nat.le_trans (this q (Nat.le_refl _)) hq
theorem FNms.two {ns : ByteArray} {x q a b : Nat} {fn fn' : Nat → ByteArray} (h : FNms ns x q fn) (hxa : x ≤ a) (hab : a + 2 ≤ b) (h1 : ∀ i, i < q → fn' i = fn i) (h2 : fn' q = ns.extract a (a + 1)) (h3 : fn' (q + 1) = ns.extract (a + 1) (a + 1 + 1)) : FNms ns b (q + 2) fn' :=
 (h.step (b := a + 1) hxa (Nat.le_refl _) h1 h2).step (a := a + 1) (Nat.le_refl _) (by omega) (fun _ _ => rfl) h3
theorem nm_top {A : Prop} {ns : ByteArray} {nx n : Nat} {pn : Nat → ByteArray} {py : Nat → Ty} {px : Nat → Nat} (h : ∀ i, i < n → NmI A ns (px i) (px (i + 1)) (pn i) (py i)) (e : px n = nx) : ∀ i, i < n → px (i + 1) ≤ nx := by
 have top : ∀ d i, i + d ≤ n → px i ≤ px (i + d) := by
  intro d
  induction d with
  | zero => intro i _; exact Nat.le_refl _
  | succ d ih =>
   intro i hi
   have h1 := ih i (by omega)
   rw [show i + (d + 1) = i + d + 1 by omega]
   rcases h (i + d) (by omega) with ⟨_, x⟩ | ⟨_, _, _, x⟩ <;> omega
 intro i hi
 have := top (n - (i + 1)) (i + 1) (by omega)
 rw [show i + 1 + (n - (i + 1)) = n by omega, e] at this
 exact this
theorem FNms.distinct {ns : ByteArray} {x q : Nat} {fn : Nat → ByteArray} (h : FNms ns x q fn) (hx : x ≤ ns.size) (hl : Letters ns) : ∀ i j, i < j → j < q → fn i ≠ fn j := by
 obtain ⟨fx, h, hq⟩ := h
 have mono : ∀ d i, i + d < q → fx i + 1 ≤ fx (i + d + 1) := by
  intro d
  induction d with
  | zero => intro i hi; exact (h i hi).2
  | succ d ih => intro i hi; have := ih i (by omega); have := (h (i + d + 1) (by omega)).2; rw [show i + (d + 1) + 1 = i + d + 1 + 1 by omega]; omega
 have top : ∀ i, i < q → fx i + 1 ≤ x := fun i hi => by
  have := mono (q - 1 - i) i (by omega)
  rw [show i + (q - 1 - i) + 1 = q by omega] at this
  omega
 intro i j hij hj e
 rw [(h i (by omega)).1, (h j hj).1] at e
 have := mono (j - i - 1) i (by omega)
 rw [show i + (j - i - 1) + 1 = j by omega] at this
 exact hl _ _ this (by have := top j hj; omega) e
theorem number_det (k n lb : Nat) (v : Value) (w : World) (hk : k ≤ 1000) (hn : n ≤ 100) (hs : U32s w v n) :
  ∃ z : Int, 0 ≤ z ∧ z < 4294967296 ∧ ∀ w', Below w.heap.size w w' → w'.cell? ⟨lb, 0, none⟩ = some v → Calls Tryz.prog 24 #[.int .i64 k, .pointer (some ⟨lb, 0, none⟩)] w' fun e w2 => e = .returned (.int .u32 z) ∧ ∃ nd, w2 = w'.drewN nd := by
 obtain ⟨a, cap, rfl, hs⟩ := hs
 by_cases h0 : n = 0
 ·subst h0
  clear hs
  refine ⟨(k : Int) * 40503, ?ka2, ?ka3, fun w' hb hl => ?ka1⟩
  case ka1 =>
   clear hb
   go_enter Tryz.func24, Tryz.ntmps24
   go_wp2
   go_ret
   exact ⟨rfl, 0, rfl⟩
  case ka2 => omega
  case ka3 => omega
 ·obtain ⟨b, off, rfl, hb0, hc⟩ := hs.resolve_left h0
  have hm : k % n < n := Nat.mod_lt _ (by omega)
  obtain ⟨z, hz, hz0, hz1⟩ := hc (k % n) hm
  have hn0 : ((n : Int) == 0) = false := by simpa using h0
  clear hc hs
  refine ⟨(z + wrap64 ((k : Int) / n) % 4294967296 * 2654435761 % 4294967296) % 4294967296, ?kb2, ?kb3, fun w' hb hl => ?kb1⟩
  case kb1 =>
   have hz := (hb.cell (p := ⟨b, off + k % n, none⟩) hb0).trans hz
   clear hb
   go_enter Tryz.func24, Tryz.ntmps24
   go_wp2_with fail
   go_quiet (fail)
   go_wp2
   go_ret
   exact ⟨rfl, nq, rfl⟩
  case kb2 => exact Int.emod_nonneg _ (by decide)
  case kb3 => exact Int.emod_lt_of_pos _ (by decide)
namespace Nam
structure FldSt (W : World) (lv : Value) (B q : Nat) (v : Value) (xs : List Value) (fn : Nat → ByteArray) (fy : Nat → Ty) (fa fb fc : Nat → Nat) (w : World) : Prop where
 own : w.ownsRow B 56 5 v q xs
 row : ∀ i, i < q → PRow xs i (fn i) (.pointer (some ⟨fc i, 0, none⟩)) (fa i) (fb i) 0
 rep : ∀ i, i < q → Rep W Nowhere (fc i) (fy i)
 ok : ∀ i, i < q → (fn i).size = 1 ∧ FN (fy i)
 old : Below W.heap.size W w
 base : B = W.heap.size + 1
 cap : Blk w W.heap.size #[lv] 22
def FldLoop (W : World) (lv : Value) (ns : ByteArray) (px : Nat → Nat) (B n gk : Nat) (s5 s23 : Value) (w : World) : Prop :=
 ∃ i q v xs fn fy fa fb fc, FldSt W lv B q v xs fn fy fa fb fc w ∧ Hid (FNms ns (px i) q fn) ∧ i ≤ n ∧ q ≤ 2 * i ∧ n - i ≤ gk ∧ v = s5 ∧ s23 = .int .i64 (i : Nat)
theorem FldSt.start (W : World) (lv : Value) (fn : Nat → ByteArray) (fy : Nat → Ty) (fa fb fc : Nat → Nat) {g : Nat} (hg : g = W.heap.size + 1) :
  FldSt W lv (W.heap.size + 1) 0 (.slice (some ⟨g, 0, none⟩) 0 0) [] fn fy fa fb fc ((W.alloc (.cells #[lv] 22)).alloc (.cells #[] 56)) := by
 subst hg
 refine ⟨⟨rfl, .inr ⟨_, 0, #[], rfl, Nat.le_refl _, ?_, Nat.le_refl _, Nat.zero_le _, rfl, rfl⟩⟩, fun i h => by omega, fun i h => by omega, fun i h => by omega, ((Below.refl _ _).alloc (Nat.le_refl _) _).alloc (by simp) _, rfl, (Blk.new _ _ _).alloc _⟩
 exact Blk.newAt _ _ _ (by simp)
theorem flat_step {W w w1 : World} {lv : Value} {B q : Nat} {v : Value} {xs : List Value} {fn : Nat → ByteArray} {fy : Nat → Ty} {fa fb fc : Nat → Nat} (st : FldSt W lv B q v xs fn fy fa fb fc w) {w0 : World}
  (h0 : Below w.heap.size w w0) {m g cap : Nat} {news : List Value} {gn : Nat → ByteArray} {gy : Nat → Ty} {ga gb gc : Nat → Nat}
  (ha : Appended w0 B 56 5 v q m xs news g cap w1) (hrow : ∀ i, i < m → PRow news i (gn i) (.pointer (some ⟨gc i, 0, none⟩)) (ga i) (gb i) 0)
  (hrep : ∀ i, i < m → Rep W Nowhere (gc i) (gy i)) (hok : ∀ i, i < m → (gn i).size = 1 ∧ FN (gy i)) :
  ∃ fy' fa' fb' fc', FldSt W lv B (q + m) (.slice (some ⟨g, 0, none⟩) (q + m) cap) (xs ++ news) (fun i => if i < q then fn i else gn (i - q)) fy' fa' fb' fc' w1 := by
 have hl := st.own.1
 have hown : w0.ownsRow B 56 5 v q xs := ownsRow_of st.own fun g _ hl => h0.block g hl
 have hB := st.base
 refine ⟨fun i => if i < q then fy i else gy (i - q), fun i => if i < q then fa i else ga (i - q), fun i => if i < q then fb i else gb (i - q), fun i => if i < q then fc i else gc (i - q),
  ⟨ha.1, fun i hi => ?_, fun i hi => ?_, fun i hi => ?_, ?_, hB, ?_⟩⟩
 ·by_cases h : i < q
  ·simp only [if_pos h]; exact (st.row i h).left hl h
  ·simp only [if_neg h]
   obtain ⟨r0, r1, r2, r3, r4⟩ := hrow (i - q) (by omega)
   refine ⟨?_, ?_, ?_, ?_, ?_⟩ <;> (rw [List.getElem?_append_right (by omega)])
   ·rw [show 5 * i - xs.length = 5 * (i - q) by omega]; exact r0
   ·rw [show 5 * i + 1 - xs.length = 5 * (i - q) + 1 by omega]; exact r1
   ·rw [show 5 * i + 2 - xs.length = 5 * (i - q) + 2 by omega]; exact r2
   ·rw [show 5 * i + 3 - xs.length = 5 * (i - q) + 3 by omega]; exact r3
   ·rw [show 5 * i + 4 - xs.length = 5 * (i - q) + 4 by omega]; exact r4
 ·by_cases h : i < q
  ·simp only [if_pos h]; exact st.rep i h
  ·simp only [if_neg h]; exact hrep _ (by omega)
 ·by_cases h : i < q
  ·simp only [if_pos h]; exact st.ok i h
  ·simp only [if_neg h]; exact hok _ (by omega)
 ·exact ha.below hown (st.old.trans (h0.mono st.old.size)) (by have := st.old.size; have := h0.size; omega) (by omega)
 ·have hc := st.cap.old h0
  exact hc.app ha hown (by omega)
structure PSt (w0 : World) (tb : Nat) (v : Value) (pk : Nat) (qn : ByteArray) (c : Nat) (y : Ty) (a bits : Nat) (w : World) : Prop where
 old : Below w0.heap.size w0 w
 lo : w0.heap.size ≤ pk
 blk : Blk w pk #[.string qn, .pointer (some ⟨c, 0, none⟩), .int .i64 a, .int .i64 bits, .int .i64 0] 56
 ty : FN y
 rep : Rep w (fun b => b = tb ∨ v.ownBlock = some b ∨ b = pk) c y
 bits : bits = 0 ∨ ∃ sz sg im, y = .int sz sg im ∧ 1 ≤ bits ∧ bits ≤ 8 * sz
def TNms (fn : Nat → ByteArray) (jx : Nat → Nat) (k c : Nat) (pn : Nat → ByteArray) : Prop :=
 (∀ i, i < c → pn i = ⟨#[]⟩ ∨ ∃ κ, κ < k ∧ pn i = fn (jx κ)) ∧ ∀ i j, i < j → j < c → pn i = ⟨#[]⟩ ∨ pn i ≠ pn j
theorem TNms.zero (fn : Nat → ByteArray) (jx : Nat → Nat) (pn : Nat → ByteArray) : TNms fn jx 0 0 pn := ⟨fun i h => by omega, fun i j h h' => by omega⟩
theorem TNms.skip {fn : Nat → ByteArray} {jx : Nat → Nat} {k c : Nat} {pn : Nat → ByteArray} (h : TNms fn jx k c pn) : TNms fn jx (k + 1) c pn :=
 ⟨fun i hi => (h.1 i hi).imp id fun ⟨κ, h1, h2⟩ => ⟨κ, by omega, h2⟩, h.2⟩
theorem TNms.step {fn : Nat → ByteArray} {jx : Nat → Nat} {k c : Nat} {pn : Nat → ByteArray} {qn : ByteArray} (h : TNms fn jx k c pn) (hd : ∀ κ, κ < k → fn (jx κ) ≠ fn (jx k)) (hq : qn = ⟨#[]⟩ ∨ qn = fn (jx k)) : TNms fn jx (k + 1) (c + 1) (upd pn c qn) := by
 refine ⟨fun i hi => ?_, fun i j hij hj => ?_⟩
 ·by_cases hic : i < c
  ·rw [upd_other _ _ hic]; exact h.skip.1 i hic
  ·obtain rfl : i = c := by omega
   rw [upd_same]; exact hq.imp id fun e => ⟨k, Nat.lt_succ_self _, e⟩
 ·have hic : i < c := by omega
  rw [upd_other _ _ hic]
  by_cases hjc : j < c
  ·rw [upd_other _ _ hjc]; exact h.2 i j hij hjc
  ·obtain rfl : j = c := by omega
   rw [upd_same]
   rcases h.1 i hic with e | ⟨κ, h1, e⟩
   ·exact .inl e
   ·rcases hq with rfl | rfl
    ·by_cases e0 : pn i = ⟨#[]⟩
     ·exact .inl e0
     ·exact .inr e0
    ·exact .inr (by rw [e]; exact hd κ h1)
def pick (rev : Bool) (q k : Nat) : Nat := if rev then q - 1 - k else k
theorem pick_ne {rev : Bool} {q k κ : Nat} {fn : Nat → ByteArray} (hd : ∀ i j, i < j → j < q → fn i ≠ fn j) (hk : k < q) (h : κ < k) : fn (pick rev q κ) ≠ fn (pick rev q k) := by
 unfold pick
 cases rev with
 | true => simp only [if_true]; exact (hd (q - 1 - k) (q - 1 - κ) (by omega) (by omega)).symm
 | false => exact hd κ k h hk
def TurnLoop (W : World) (tb : Nat) (nm : ByteArray) (fn : Nat → ByteArray) (jx : Nat → Nat) (q gk : Nat) (s9 s55 : Value) (w : World) : Prop :=
 ∃ k c at_ v xs pn py pa pb pc, StrSt W Nowhere FN 200 at_ tb nm c v xs pn py pa pb pc w ∧ Hid (TNms fn jx k c pn) ∧ c ≤ k ∧ k ≤ q ∧ at_ ≤ k * 1856 ∧ q - k ≤ gk ∧ s9 = .int .i64 (at_ : Nat) ∧ s55 = .int .i64 (k : Nat)
theorem PSt.of {W w0 w1 w : World} {tb : Nat} {nm : ByteArray} {c0 : Nat} {v : Value} {xs : List Value} {pn : Nat → ByteArray} {py : Nat → Ty} {pa pb pc : Nat → Nat} {A : Nat} {pk : Nat} {qn : ByteArray} {c : Nat} {y : Ty} {a bits : Nat}
  (su : StrSt W Nowhere FN 200 A tb nm c0 v xs pn py pa pb pc w0) (h1 : Below w0.heap.size w0 w1) (h2 : Below w0.heap.size w1 w) (lo : w0.heap.size ≤ pk)
  (blk : Blk w pk #[.string qn, .pointer (some ⟨c, 0, none⟩), .int .i64 a, .int .i64 bits, .int .i64 0] 56) (ty : FN y)
  (r : Rep w (fun b => b ≤ pk) c y ∨ ∃ w', Rep w' Nowhere c y ∧ Below w'.heap.size w' w ∧ w'.heap.size ≤ tb)
  (hb : bits = 0 ∨ ∃ sz sg im, y = .int sz sg im ∧ 1 ≤ bits ∧ bits ≤ 8 * sz) : PSt w0 tb v pk qn c y a bits w := by
 refine ⟨h1.trans h2, lo, blk, ty, ?_, hb⟩
 have hown : ∀ g, v.ownBlock = some g → tb + 1 ≤ g ∧ g < w0.heap.size := fun g hg => su.own.lt g hg
 rcases r with r | ⟨w', r, hb', hlt⟩
 ·refine r.weaken fun b _ hx => ?_
  have hl := su.blk.lt
  rcases hx with hx | hx | hx
  ·show b ≤ pk; omega
  ·have := hown b hx; show b ≤ pk; omega
  ·show b ≤ pk; omega
 ·refine r.from_old hb' fun b hx => ?_
  have hl := su.blk.lt
  rcases hx with hx | hx | hx
  ·omega
  ·have := hown b hx; omega
  ·omega
theorem PSt.arr {W w0 we w : World} {tb : Nat} {nm : ByteArray} {c0 : Nat} {v : Value} {xs : List Value} {pn : Nat → ByteArray} {py : Nat → Ty} {pa pb pc : Nat → Nat} {A : Nat} {qn : ByteArray} {c ac an n : Nat} {y au : Ty} {a : Nat} {zv : Int}
  (su : StrSt W Nowhere FN 200 A tb nm c0 v xs pn py pa pb pc w0) (pe : PSt w0 tb v w0.heap.size qn c y a 0 we) (hry : Rep w Nowhere c (.arr an au)) (hw : Below w.heap.size w we) (hwtb : w.heap.size ≤ tb)
  (hk4 : we.cell? ⟨c, 4, none⟩ = some (.pointer (some ⟨ac, 0, none⟩))) (hau : IntT au) (hz : zv = n) (h1 : 1 ≤ n) (h6 : n ≤ 6) :
  PSt w0 tb v w0.heap.size qn we.heap.size (.arr n au) a 0 ((we.setCell ⟨w0.heap.size, 1, none⟩ (.pointer (some ⟨we.heap.size, 0, none⟩))).alloc (.cells #[.int .i64 3, .string ⟨#[]⟩, .int .i64 zv, .bool false, .pointer (some ⟨ac, 0, none⟩), .slice none 0 0] 38)) := by
 subst hz
 have hown : ∀ g, v.ownBlock = some g → tb + 1 ≤ g ∧ g < w0.heap.size := fun g hg => su.own.lt g hg
 obtain ⟨c', _, _, h4, r'⟩ := hry.elem
 have hcl := hry.lt
 rw [← hw.cell (p := ⟨c, 4, none⟩) hcl, hk4] at h4
 simp only [Option.some.injEq, Value.pointer.injEq, Addr.mk.injEq, and_true] at h4
 subst h4
 have hsz : (we.setCell ⟨w0.heap.size, 1, none⟩ (.pointer (some ⟨we.heap.size, 0, none⟩))).heap.size = we.heap.size := by simp
 have hpl := pe.blk.lt
 have hbel : Below w0.heap.size we ((we.setCell ⟨w0.heap.size, 1, none⟩ (.pointer (some ⟨we.heap.size, 0, none⟩))).alloc (.cells #[.int .i64 3, .string ⟨#[]⟩, .int .i64 n, .bool false, .pointer (some ⟨ac, 0, none⟩), .slice none 0 0] 38)) :=
  (below_set _ _ _ _).alloc (by rw [hsz]; exact Nat.le_of_lt hpl) _
 have hss := su.blk.lt
 refine ⟨pe.old.trans hbel, Nat.le_refl _, (pe.blk.set 1 _).alloc _, .inl (.arr hau h1 h6), .arr (Blk.newAt _ _ _ hsz.symm) ?_ ?_, .inl rfl⟩
 ·rintro (hx | hx | hx)
  ·omega
  ·have := hown _ hx; omega
  ·omega
 ·refine r'.from_old (hw.trans (hbel.mono (by omega))) fun b hx => ?_
  rcases hx with hx | hx | hx
  ·omega
  ·have := hown b hx; omega
  ·omega
theorem PSt.pre {W w0 w : World} {tb : Nat} {nm : ByteArray} {c0 : Nat} {v : Value} {xs : List Value} {pn : Nat → ByteArray} {py : Nat → Ty} {pa pb pc : Nat → Nat} {A : Nat} {pk : Nat} {qn : ByteArray} {c : Nat} {y : Ty} {a bits : Nat}
  (su : StrSt W Nowhere FN 200 A tb nm c0 v xs pn py pa pb pc w0) (ps : PSt w0 tb v pk qn c y a bits w) (hq : qn.size = 1) (hb : BitsOk y a bits) :
  StrPre W Nowhere FN 200 A tb nm c0 v xs pn py pa pb pc w0.heap.size pk qn c y a bits w :=
 ⟨su.move ps.old, ps.blk, ps.rep.weaken (fun b _ hx => by rcases hx with hx | hx | hx; exact hx.elim; exact .inl hx; exact .inr (.inl hx)), .inl ⟨hq, ps.ty, hb⟩, ps.old.size⟩
theorem PSt.inner {W w0 we w : World} {tb : Nat} {nm : ByteArray} {c0 : Nat} {v : Value} {xs : List Value} {pn : Nat → ByteArray} {py : Nat → Ty} {pa pb pc : Nat → Nat} {A : Nat} {pk : Nat} {qn : ByteArray} {c : Nat} {y : Ty} {a a2 x2 bits gb ib sz : Nat}
  (su : StrSt W Nowhere FN 200 A tb nm c0 v xs pn py pa pb pc w0) (ps : PSt w0 tb v pk qn c y a bits we) (hq : qn.size = 1) (hb : BitsOk y x2 bits) (hx2 : x2 ≤ 63) (hsz : sz ≤ 216) (h64 : a2 % 64 = 0)
  (hold : ∀ b, b < we.heap.size → b ≠ pk → w.heap[b]? = we.heap[b]?) (hB : Below w0.heap.size we w)
  (hp : Blk w pk #[.string ⟨#[]⟩, .pointer (some ⟨ib, 0, none⟩), .int .i64 a2, .int .i64 0, .int .i64 0] 56)
  (hg : Blk w gb #[.string qn, .pointer (some ⟨c, 0, none⟩), .int .i64 x2, .int .i64 bits, .int .i64 0] 56) (hgl : we.heap.size ≤ gb)
  (hi : Blk w ib #[.int .i64 4, .string ⟨#[]⟩, .int .i64 sz, .bool false, .pointer none, .slice (some ⟨gb, 0, none⟩) 1 1] 38) (hil : we.heap.size ≤ ib) :
  ∃ y', StrPre W Nowhere FN 200 A tb nm c0 v xs pn py pa pb pc w0.heap.size pk ⟨#[]⟩ ib y' a2 0 w := by
 have hown : ∀ g, v.ownBlock = some g → tb + 1 ≤ g ∧ g < w0.heap.size := fun g hg => su.own.lt g hg
 have hss := su.blk.lt
 have hos := ps.old.size
 refine ⟨.comp false ⟨#[]⟩ sz 1 (fun _ => qn) (fun _ => y) (fun _ => x2) (fun _ => bits), ⟨su.move (ps.old.trans hB), hp, ?_, ?_, Nat.le_trans ps.old.size hB.size⟩⟩
 ·refine .comp (v := .slice (some ⟨gb, 0, none⟩) 1 1) (xs := [.string qn, .pointer (some ⟨c, 0, none⟩), .int .i64 x2, .int .i64 bits, .int .i64 0]) (pc := fun _ => c) hi ?_ ⟨rfl, .inr ⟨gb, 1, _, rfl, Nat.zero_le _, hg, Nat.le_refl _, by decide, rfl, rfl⟩⟩ ?_ (fun i hi2 => ?_) (fun i hi2 => ?_)
  ·rintro (hx | hx | hx)
   ·exact hx
   ·omega
   ·have := hown _ hx; omega
  ·intro g hg' hx
   have e : gb = g := by simpa [Value.ownBlock] using hg'
   rcases hx with hx | hx | hx
   ·exact hx
   ·omega
   ·have := hown _ hx; omega
  ·obtain rfl : i = 0 := by omega
   exact ⟨rfl, rfl, rfl, rfl, rfl⟩
  ·refine ps.rep.keep (fun b hbl hd => hold b hbl (fun x => hd (.inr (.inr x)))) (fun b _ hx => ?_)
   rcases hx with hx | hx | hx
   ·exact hx.elim
   ·exact .inl hx
   ·exact .inr (.inl hx)
 ·exact .inr ⟨rfl, ⟨false, sz, 1, _, _, _, _, rfl, Nat.le_refl _, by omega, hsz, fun i _ => ⟨hq, ps.ty, hb, by omega⟩⟩, rfl, h64⟩
theorem PSt.set_at {w0 w : World} {tb : Nat} {v : Value} {qn : ByteArray} {c : Nat} {y : Ty} {a bits a' : Nat} {z : Value} (ps : PSt w0 tb v w0.heap.size qn c y a bits w) (hz : z = .int .i64 (a' : Nat)) (n : Nat) :
  PSt w0 tb v w0.heap.size qn c y a' bits ((w.drewN n).setCell ⟨w0.heap.size, 2, none⟩ z) := by
 subst hz
 exact ⟨(below_drewN ps.old n).trans (below_set _ _ _ _), Nat.le_refl _, (ps.blk.drewN n).set 2 _, ps.ty, (ps.rep.drewN n).set_far (p := ⟨w0.heap.size, 2, none⟩) (.inr (.inr rfl)) (fun _ _ h => h) _, ps.bits⟩
theorem PSt.drewN {w0 w : World} {tb pk : Nat} {v : Value} {qn : ByteArray} {c : Nat} {y : Ty} {a bits : Nat} (ps : PSt w0 tb v pk qn c y a bits w) (n : Nat) : PSt w0 tb v pk qn c y a bits (w.drewN n) :=
 ⟨below_drewN ps.old n, ps.lo, ps.blk.drewN n, ps.ty, ps.rep.drewN n, ps.bits⟩
theorem PSt.put_at {w0 w : World} {tb : Nat} {v : Value} {qn : ByteArray} {c : Nat} {y : Ty} {a bits a' : Nat} {z : Value} (ps : PSt w0 tb v w0.heap.size qn c y a bits w) (hz : z = .int .i64 (a' : Nat)) :
  PSt w0 tb v w0.heap.size qn c y a' bits (w.setCell ⟨w0.heap.size, 2, none⟩ z) := by
 subst hz
 exact ⟨ps.old.trans (below_set _ _ _ _), Nat.le_refl _, ps.blk.set 2 _, ps.ty, ps.rep.set_far (p := ⟨w0.heap.size, 2, none⟩) (.inr (.inr rfl)) (fun _ _ h => h) _, ps.bits⟩
theorem PSt.inner_at {W w0 we : World} {tb : Nat} {nm : ByteArray} {c0 : Nat} {v : Value} {xs : List Value} {pn : Nat → ByteArray} {py : Nat → Ty} {pa pb pc : Nat → Nat} {A : Nat} {qn : ByteArray} {c : Nat} {y : Ty} {a a2 bits sz : Nat} {z2 zx zs : Int}
  (su : StrSt W Nowhere FN 200 A tb nm c0 v xs pn py pa pb pc w0) (ps : PSt w0 tb v w0.heap.size qn c y a bits we) (hq : qn.size = 1) (hb : BitsOk y (a % 64) bits) (hsz : sz ≤ 216) (hz2 : z2 = a2) (hzx : zx = (a % 64 : Nat)) (hzs : zs = sz) (h64 : a2 % 64 = 0) :
  ∃ y', StrPre W Nowhere FN 200 A tb nm c0 v xs pn py pa pb pc w0.heap.size w0.heap.size ⟨#[]⟩ (we.heap.size + 1) y' a2 0
   (((((((we.setCell ⟨w0.heap.size, 0, none⟩ (.string ⟨#[]⟩)).setCell ⟨w0.heap.size, 1, none⟩ (.pointer (some ⟨we.heap.size + 1, 0, none⟩))).setCell ⟨w0.heap.size, 2, none⟩ (.int .i64 z2)).setCell ⟨w0.heap.size, 3, none⟩ (.int .i64 0)).setCell ⟨w0.heap.size, 4, none⟩ (.int .i64 0)).alloc
    (.cells #[.string qn, .pointer (some ⟨c, 0, none⟩), .int .i64 zx, .int .i64 bits, .int .i64 0] 56)).alloc (.cells #[.int .i64 4, .string ⟨#[]⟩, .int .i64 zs, .bool false, .pointer none, .slice (some ⟨we.heap.size, 0, none⟩) 1 1] 38)) := by
 subst hz2 hzx hzs
 have hpl := ps.blk.lt
 have h5 := ((((ps.blk.set 0 (.string ⟨#[]⟩)).set 1 (.pointer (some ⟨we.heap.size + 1, 0, none⟩))).set 2 (.int .i64 a2)).set 3 (.int .i64 0)).set 4 (.int .i64 0)
 have hB5 : Below w0.heap.size we ((((((we.setCell ⟨w0.heap.size, 0, none⟩ (.string ⟨#[]⟩)).setCell ⟨w0.heap.size, 1, none⟩ (.pointer (some ⟨we.heap.size + 1, 0, none⟩))).setCell ⟨w0.heap.size, 2, none⟩ (.int .i64 a2)).setCell ⟨w0.heap.size, 3, none⟩ (.int .i64 0)).setCell ⟨w0.heap.size, 4, none⟩ (.int .i64 0))) :=
  ((((below_set _ _ _ _).trans (below_set _ _ _ _)).trans (below_set _ _ _ _)).trans (below_set _ _ _ _)).trans (below_set _ _ _ _)
 have hhold : ∀ b, b ≠ w0.heap.size → ((((((we.setCell ⟨w0.heap.size, 0, none⟩ (.string ⟨#[]⟩)).setCell ⟨w0.heap.size, 1, none⟩ (.pointer (some ⟨we.heap.size + 1, 0, none⟩))).setCell ⟨w0.heap.size, 2, none⟩ (.int .i64 a2)).setCell ⟨w0.heap.size, 3, none⟩ (.int .i64 0)).setCell ⟨w0.heap.size, 4, none⟩ (.int .i64 0))).heap[b]? = we.heap[b]? := by
  intro b n1
  rw [Below.heap_setCell _ _ _ _ n1, Below.heap_setCell _ _ _ _ n1, Below.heap_setCell _ _ _ _ n1, Below.heap_setCell _ _ _ _ n1, Below.heap_setCell _ _ _ _ n1]
 have hs5 : ((((((we.setCell ⟨w0.heap.size, 0, none⟩ (.string ⟨#[]⟩)).setCell ⟨w0.heap.size, 1, none⟩ (.pointer (some ⟨we.heap.size + 1, 0, none⟩))).setCell ⟨w0.heap.size, 2, none⟩ (.int .i64 a2)).setCell ⟨w0.heap.size, 3, none⟩ (.int .i64 0)).setCell ⟨w0.heap.size, 4, none⟩ (.int .i64 0))).heap.size = we.heap.size := by simp
 revert h5 hB5 hhold hs5
 generalize ((((((we.setCell ⟨w0.heap.size, 0, none⟩ (.string ⟨#[]⟩)).setCell ⟨w0.heap.size, 1, none⟩ (.pointer (some ⟨we.heap.size + 1, 0, none⟩))).setCell ⟨w0.heap.size, 2, none⟩ (.int .i64 a2)).setCell ⟨w0.heap.size, 3, none⟩ (.int .i64 0)).setCell ⟨w0.heap.size, 4, none⟩ (.int .i64 0))) = w5
 intro h5 hB5 hhold hs5
 refine ps.inner su hq hb (Nat.le_of_lt_succ (Nat.mod_lt _ (by omega))) hsz h64 (gb := we.heap.size) (fun b hb hne => ?_) ?_ ((h5.alloc _).alloc _) ((Blk.newAt _ _ _ hs5.symm).alloc _) (Nat.le_refl _) (Blk.newAt _ _ _ (by simp [hs5])) (Nat.le_succ _)
 ·rw [Below.heap_alloc _ _ _ (by simp [hs5]; omega), Below.heap_alloc _ _ _ (by rw [hs5]; exact hb), hhold b hne]
 ·exact (hB5.alloc (by rw [hs5]; omega) _).alloc (by simp [hs5]; omega) _
def Turned (W : World) (nm : ByteArray) (e : Ending) (w' : World) : Prop :=
 ∃ (wq w2 : World) (tb A c : Nat) (v : Value) (xs : List Value) (pn : Nat → ByteArray) (py : Nat → Ty) (pa pb pc : Nat → Nat) (z : Value), e = .returned (.pointer (some ⟨tb, 0, none⟩)) ∧ StrSt wq Nowhere FN 200 A tb nm c v xs pn py pa pb pc w2 ∧
  c ≤ 10 ∧ A ≤ 100000 ∧ Below W.heap.size W wq ∧ z = .int .i64 ((A + 63) / 64 * 8 : Nat) ∧ w' = w2.setCell ⟨tb, 2, none⟩ z ∧ ∀ i j, i < j → j < c → pn i = ⟨#[]⟩ ∨ pn i ≠ pn j
end Nam
theorem FNms.mono {ns : ByteArray} {x q : Nat} {fn : Nat → ByteArray} {fx : Nat → Nat} (h : ∀ i, i < q → fn i = ns.extract (fx i) (fx i + 1) ∧ fx i + 1 ≤ fx (i + 1)) (hq : fx q ≤ x) : (∀ i j, i < j → j < q → fx i < fx j) ∧ ∀ i, i < q → fx i + 1 ≤ x := by
 have mono : ∀ d i, i + d < q → fx i + 1 ≤ fx (i + d + 1) := by
  intro d
  induction d with
  | zero => intro i hi; exact (h i hi).2
  | succ d ih => intro i hi; have := ih i (by omega); have := (h (i + d + 1) (by omega)).2; rw [show i + (d + 1) + 1 = i + d + 1 + 1 by omega]; omega
 refine ⟨fun i j hij hj => ?_, fun i hi => ?_⟩
 ·have := mono (j - i - 1) i (by omega)
  rw [show i + (j - i - 1) + 1 = j by omega] at this
  omega
 ·have := mono (q - 1 - i) i (by omega)
  rw [show i + (q - 1 - i) + 1 = q by omega] at this
  omega
theorem FNms.one {ns : ByteArray} {x q : Nat} {fn : Nat → ByteArray} (h : FNms ns x q fn) (hx : x ≤ ns.size) : ∀ i, i < q → (fn i).size = 1 := by
 obtain ⟨fx, h, hq⟩ := h
 intro i hi
 rw [(h i hi).1]
 exact extract_one _ _ (by have := (FNms.mono h hq).2 i hi; omega)
theorem Nms.fnms {A : Prop} {ns : ByteArray} {nx k : Nat} {pn : Nat → ByteArray} {py : Nat → Ty} (h : Nms A ns nx k pn py) (hA : ¬ A) : FNms ns nx k pn := by
 obtain ⟨px, hpx, e⟩ := h
 refine ⟨px, fun i hi => ?_, Nat.le_of_eq e⟩
 rcases hpx i hi with h1 | ⟨h1, _⟩
 ·exact h1
 ·exact absurd h1 hA
def allNe (ns : ByteArray) (n : Nat) : Bool := (List.range n).all fun y => (List.range y).all fun x => !(ns.extract x (x + 1) == ns.extract y (y + 1))
theorem letters_of {ns : ByteArray} (h : allNe ns ns.size = true) : Letters ns := by
 intro x y hxy hy e
 simp only [allNe, List.all_eq_true, List.mem_range] at h
 have := h y hy x hxy
 rw [e, (MapKept.bytes_beq _ _).2 rfl] at this
 cases this
theorem letters_aj : Letters ⟨#[97, 98, 99, 100, 101, 102, 103, 104, 105, 106]⟩ := letters_of (by decide +kernel)
def Apart (n : Nat) (pn : Nat → ByteArray) : Prop := ∀ i j, i < j → j < n → pn i = ⟨#[]⟩ ∨ pn i ≠ pn j
theorem Nms.apart {A : Prop} {ns : ByteArray} {nx k : Nat} {pn : Nat → ByteArray} {py : Nat → Ty} (h : Nms A ns nx k pn py) (hx : nx ≤ ns.size) (hl : Letters ns) : Apart k pn := by
 obtain ⟨px, hpx, e⟩ := h
 have step : ∀ i, i < k → px i + 1 ≤ px (i + 1) := fun i hi => by
  rcases hpx i hi with ⟨_, h⟩ | ⟨_, _, _, h⟩ <;> omega
 have hm := FNms.mono (ns := ns) (x := ns.size) (q := k) (fn := fun i => ns.extract (px i) (px i + 1)) (fx := px) (fun i hi => ⟨rfl, step i hi⟩) (by omega)
 intro i j hij hj
 rcases hpx i (by omega) with ⟨h1, _⟩ | ⟨_, h1, _⟩
 ·refine .inr ?_
  rcases hpx j hj with ⟨h2, _⟩ | ⟨_, h2, _⟩
  ·rw [h1, h2]
   exact hl _ _ (hm.1 i j hij hj) (by have := hm.2 j hj; omega)
  ·rw [h1, h2]
   intro e2
   have := extract_one ns (px i) (by have := hm.2 i (by omega); omega)
   rw [e2] at this
   cases this
 ·exact .inl h1
def CmpT (t : Ty) : Prop := ∃ sz n pn py pa pb, t = .comp false ⟨#[115]⟩ sz n pn py pa pb ∧ sz ≤ 200000 ∧ n ≤ 40 ∧ (∀ i, i < n → PartOk FN 200 (pn i) (py i) (pa i) (pb i) ∧ pa i ≤ 200000) ∧ Apart n pn
theorem CmpT.good {t : Ty} (h : CmpT t) : Good t ∧ t.cnt ≤ 12000 := by
 obtain ⟨sz, n, pn, py, pa, pb, rfl, hsz, hn, hp, hd⟩ := h
 have hg := comp_good (un := false) (nm := ⟨#[115]⟩) (sz := sz) (c := 141) (N := 40) (A := 200000) (F := FN) (fun t ht => FT.good ht.ft) (by omega) (by omega) hn (by omega) (by omega) hp
 exact ⟨hg.1, Nat.le_trans hg.2 (by omega)⟩
end Go.Proofs.YtfilbgmbmlmdbaaGreatDoor
namespace Go.Proofs.YtfilbgmbmlmdbaaGreatDoor
open Go.RowKit Go.MapKept
theorem BitsOk.pt {y : Ty} {a b : Nat} (h : BitsOk y a b) (hs : ∀ sz sg nm, y = .int sz sg nm → sz ≤ 8) : Pt y a b := by
 rcases h with ⟨rfl, ha⟩ | ⟨sz, sg, nm, rfl, ⟨h1, h2⟩, hm⟩
 ·exact ⟨by omega, fun _ => ha, fun h => absurd rfl h⟩
 ·have := hs _ _ _ rfl
  exact ⟨by omega, fun h => by omega, fun _ => ⟨sz, sg, nm, rfl, h2, hm⟩⟩
theorem FN.int8 {y : Ty} (h : FN y) : ∀ sz sg nm, y = .int sz sg nm → sz ≤ 8 := fun sz sg nm e => by
 rw [e] at h
 have := h.size
 omega
theorem FN.fok {t : Ty} (h : FN t) : FOk t := by
 rcases h with h | ⟨sz, n, pn, py, pa, pb, rfl, hn, hsz, hp, nx, hnx, hnms⟩
 ·exact .leaf h
 ·have hfn := hnms.fnms (by decide)
  have hp' : ∀ i, i < n → (pn i).size = 1 ∧ Leaf (py i) ∧ BitsOk (py i) (pa i) (pb i) := fun i hi => by
   have h1 := hfn.one hnx i hi
   rcases (hp i hi).1 with ⟨_, hy, hb⟩ | ⟨h0, _⟩
   ·exact ⟨h1, hy, hb⟩
   ·omega
  exact .comp (by omega) hn (fun i hi => ⟨by have := (hp i hi).2; omega, (hp' i hi).2.2.pt (FN.int8 (.inl (hp' i hi).2.1))⟩) (fun i hi => .leaf (hp' i hi).2.1) (fun i hi h0 => absurd h0 (by have := (hp' i hi).1; omega))
theorem parts_fok {un : Bool} {nm : ByteArray} {sz n : Nat} {pn : Nat → ByteArray} {py : Nat → Ty} {pa pb : Nat → Nat} (hs : sz ≤ 200000) (hn : n ≤ 20) (hp : ∀ i, i < n → PartOk FN 200 (pn i) (py i) (pa i) (pb i) ∧ pa i ≤ 200000) : FOk (.comp un nm sz n pn py pa pb) := by
 have hy : ∀ i, i < n → FOk (py i) ∧ Pt (py i) (pa i) (pb i) := fun i hi => by
  rcases (hp i hi).1 with ⟨_, hy, hb⟩ | ⟨_, ⟨un', sz', n', pn', py', pa', pb', e, h1, h2, h3, h4⟩, hb, ha⟩
  ·exact ⟨hy.fok, hb.pt hy.int8⟩
  ·refine ⟨?_, by
    rw [hb]
    exact ⟨by omega, fun _ => by rw [e]; exact Al8.mod (y := .comp un' ⟨#[]⟩ sz' n' pn' py' pa' pb') (.inl rfl) ha, fun h => absurd rfl h⟩⟩
   rw [e]
   exact .comp (by omega) (by omega) (fun j hj => ⟨by have := (h4 j hj).2.2.2; omega, (h4 j hj).2.2.1.pt (h4 j hj).2.1.int8⟩) (fun j hj => (h4 j hj).2.1.fok) (fun j hj h0 => absurd h0 (by have := (h4 j hj).1; omega))
 refine .comp hs hn (fun i hi => ⟨(hp i hi).2, (hy i hi).2⟩) (fun i hi => (hy i hi).1) (fun i hi h0 => ?_)
 rcases (hp i hi).1 with ⟨h1, _⟩ | ⟨_, ⟨un', sz', n', pn', py', pa', pb', e, h1, h2, h3, h4⟩, hb, ha⟩
 ·omega
 ·exact ⟨hb, ha, un', ⟨#[]⟩, sz', n', pn', py', pa', pb', e, fun j hj => by have := (h4 j hj).1; omega⟩
def FldT (t : Ty) : Prop := FOk t ∧ isC t = true ∧ Good t ∧ t.cnt ≤ 12000
theorem parts_fld {nm : ByteArray} {sz n : Nat} {pn : Nat → ByteArray} {py : Nat → Ty} {pa pb : Nat → Nat} (hs : sz ≤ 200000) (hn : n ≤ 20) (hp : ∀ i, i < n → PartOk FN 200 (pn i) (py i) (pa i) (pb i) ∧ pa i ≤ 200000) : FldT (.comp false nm sz n pn py pa pb) := by
 have hg := comp_good (un := false) (nm := nm) (sz := sz) (c := 141) (N := 40) (A := 200000) (F := FN) (fun t ht => FT.good ht.ft) (by omega) (by omega) (Nat.le_trans hn (by omega)) (by omega) (by omega) hp
 exact ⟨parts_fok hs hn hp, rfl, hg.1, Nat.le_trans hg.2 (by omega)⟩
theorem StrN.fld {A : Prop} {mx : Nat} {nm ns : ByteArray} {t : Ty} (h : StrN A FN 200 mx nm ns t) (hmx : mx ≤ 20000) : FldT t := by
 obtain ⟨sz, n, pn, py, pa, pb, rfl, hn, hsz, hp, _⟩ := h
 exact parts_fld (by omega) hn (fun i hi => ⟨(hp i hi).1, by have := (hp i hi).2; omega⟩)
theorem Nam.Turned.fld {W w' : World} {nm : ByteArray} {e : Ending} (h : Nam.Turned W nm e w') : ∃ tb t, e = .returned (.pointer (some ⟨tb, 0, none⟩)) ∧ Rep w' Nowhere tb t ∧ FldT t ∧ Below W.heap.size W w' := by
 obtain ⟨wq, w2, tb, A, c, v, xs, pn, py, pa, pb, pc, z, rfl, st, hc, hA, hb, rfl, rfl, hd⟩ := h
 have h2 := st.blk.set 2 (.int .i64 ((A + 63) / 64 * 8 : Nat))
 exact ⟨tb, _, rfl, st.whole h2 (fun b _ hne => Below.heap_setCell _ _ _ _ hne), parts_fld (by omega) (by omega) (fun i hi => ⟨(st.ok i hi).1, by have := (st.ok i hi).2; omega⟩), (hb.trans (st.old.mono hb.size)).setCell (Nat.le_trans hb.size st.lo) _⟩
end Go.Proofs.YtfilbgmbmlmdbaaGreatDoor
