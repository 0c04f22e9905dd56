/- The contract of turnedOf, with the names of the fields: a struct turned by numbers. Nothing is claimed here. -/
import Derived.Test.YtfilbgmbmlmdbaaGreatDoorWg
import Derived.Test.YtfilbgmbmlmdbaaGreatDoorTurnB
namespace Go.Proofs.YtfilbgmbmlmdbaaGreatDoor
open Go.RowKit

/-- Fields' types: no structs, or the small struct, whose parts have letters for names. -/
def FN (t : Ty) : Prop := Leaf t ∨ StrN ((0 : Int) = 1) Leaf 48 168 ⟨#[105, 110]⟩ ⟨#[120, 121, 122]⟩ t
theorem FN.ft {t : Ty} (h : FN t) : FT t := by
  rcases h with h | h
  · exact .inl h
  · exact .inr h.str
/-- What structOf makes of numbers, at a depth, with the names. -/
def StructN (d : Int) (F : Ty → Prop) (M : Nat) : Prop := ∀ (nm ns : ByteArray), ns.size ≤ 10 → ∀ n, n ≤ 8 → ∀ (sv : Value) (w : World), U32s w sv n →
  Calls Tryz.prog 7 #[sv, .string nm, .string ns, .int .i64 d] w (Made w (StrN (d = 1) F M (n * (M + 32) + 8) nm ns))

theorem typeN_one (hS : StructN 0 Leaf 48) : TypeC 1 FN := by
  intro z w h0 h1
  by_cases hz : z % 9 = 8
  · go_enter Tryz.func17, Tryz.ntmps17
    go_wp2_with fail
    refine (hS ⟨#[105, 110]⟩ ⟨#[120, 121, 122]⟩ (by decide) 2 (by omega) _ _ (u32s_two _ w.heap.size _ _ (by omega) (by omega) (Blk.new _ _ _))).mono ?_
    rintro e w1 ⟨b, t, rfl, r, ht, hb⟩
    go_wp2_with fail
    go_ret
    exact ⟨_, _, rfl, r.weaken (fun b _ h => by simp; omega), .inr ht, ((Below.refl _ _).alloc (Nat.le_refl _) _).trans (hb.mono (by simp))⟩
  · exact typeOf_leaf 1 FN (fun _ h => .inl h) z w h0 h1 hz

theorem structN_zero : StructN 0 Leaf 48 := fun nm ns hns n hn sv w hs =>
  structN_any 0 (.inl rfl) Leaf 48 (by omega) (fun _ h => ⟨h.facts.2.1, h.facts.2.2⟩) typeC_zero (fun _ h => .int h) (fun _ _ _ h => h.int_size) (fun _ _ h => h.arr_elem) nm ns hns n hn sv w hs
end Go.Proofs.YtfilbgmbmlmdbaaGreatDoor

namespace Go.Proofs.YtfilbgmbmlmdbaaGreatDoor
open Go.RowKit

theorem FN.arr {m : Nat} {u : Ty} (h : FN (.arr m u)) : IntT u := h.ft.arr
theorem FN.size {sz : Nat} {sg : Bool} {im : ByteArray} (h : FN (.int sz sg im)) : sz = 1 ∨ sz = 2 ∨ sz = 4 ∨ sz = 8 := h.ft.size
theorem FN.flat {t : Ty} (h : FN t) : t.bytes ≤ 200 ∧ Flat t := h.ft.flat
theorem structN_one : StructN 1 FN 200 := fun nm ns hns n hn sv w hs =>
  structN_any 1 (.inr rfl) FN 200 (by omega) (fun t ht => ht.flat) (typeN_one structN_zero) (fun t ht => .inl (.int ht)) (fun sz sg im ht => ht.size) (fun m u ht => ht.arr) nm ns hns n hn sv w hs

/-- No letter comes twice. -/
def Letters (ns : ByteArray) : Prop := ∀ x y, x < y → y < ns.size → ns.extract x (x + 1) ≠ ns.extract y (y + 1)
/-- The fields' names are letters, one behind the other. -/
def FNms (ns : ByteArray) (x q : Nat) (fn : Nat → ByteArray) : Prop := ∃ fx : Nat → Nat, (∀ i, i < q → fn i = ns.extract (fx i) (fx i + 1) ∧ fx i + 1 ≤ fx (i + 1)) ∧ fx q ≤ x
theorem FNms.zero (ns : ByteArray) (x : Nat) (fn : Nat → ByteArray) : FNms ns x 0 fn := ⟨fun _ => 0, fun i h => by omega, Nat.zero_le _⟩
theorem FNms.step {ns : ByteArray} {x q a b : Nat} {fn fn' : Nat → ByteArray} (h : FNms ns x q fn) (hxa : x ≤ a) (hab : a + 1 ≤ b) (h1 : ∀ i, i < q → fn' i = fn i) (h2 : fn' q = ns.extract a (a + 1)) : FNms ns b (q + 1) fn' := by
  obtain ⟨fx, h, hx⟩ := h
  refine ⟨fun i => if i < q then fx i else if i = q then a else b, fun i hi => ?_, ?_⟩
  · by_cases hiq : i < q
    · have := h i hiq
      simp only [if_pos hiq]
      refine ⟨(h1 i hiq).trans this.1, ?_⟩
      by_cases h3 : i + 1 < q
      · rw [if_pos h3]; exact this.2
      · have e : i + 1 = q := by omega
        rw [if_neg h3, if_pos e]
        rw [e] at this
        omega
    · obtain rfl : i = q := by omega
      simp only [if_neg hiq, if_true, if_neg (show ¬ i + 1 < i by omega), if_neg (show ¬ i + 1 = i by omega)]
      exact ⟨h2, hab⟩
  · simp only [if_neg (show ¬ q + 1 < q by omega), if_neg (show ¬ q + 1 = q by omega)]
    exact Nat.le_refl _
theorem FNms.two {ns : ByteArray} {x q a b : Nat} {fn fn' : Nat → ByteArray} (h : FNms ns x q fn) (hxa : x ≤ a) (hab : a + 2 ≤ b) (h1 : ∀ i, i < q → fn' i = fn i) (h2 : fn' q = ns.extract a (a + 1)) (h3 : fn' (q + 1) = ns.extract (a + 1) (a + 1 + 1)) : FNms ns b (q + 2) fn' :=
  (h.step (b := a + 1) hxa (Nat.le_refl _) h1 h2).step (a := a + 1) (Nat.le_refl _) (by omega) (fun _ _ => rfl) h3
theorem nm_top {A : Prop} {ns : ByteArray} {nx n : Nat} {pn : Nat → ByteArray} {py : Nat → Ty} {px : Nat → Nat} (h : ∀ i, i < n → NmI A ns (px i) (px (i + 1)) (pn i) (py i)) (e : px n = nx) : ∀ i, i < n → px (i + 1) ≤ nx := by
  have top : ∀ d i, i + d ≤ n → px i ≤ px (i + d) := by
    intro d
    induction d with
    | zero => intro i _; exact Nat.le_refl _
    | succ d ih =>
      intro i hi
      have h1 := ih i (by omega)
      rw [show i + (d + 1) = i + d + 1 by omega]
      rcases h (i + d) (by omega) with ⟨_, x⟩ | ⟨_, _, _, x⟩ <;> omega
  intro i hi
  have := top (n - (i + 1)) (i + 1) (by omega)
  rw [show i + 1 + (n - (i + 1)) = n by omega, e] at this
  exact this
theorem FNms.distinct {ns : ByteArray} {x q : Nat} {fn : Nat → ByteArray} (h : FNms ns x q fn) (hx : x ≤ ns.size) (hl : Letters ns) : ∀ i j, i < j → j < q → fn i ≠ fn j := by
  obtain ⟨fx, h, hq⟩ := h
  have mono : ∀ d i, i + d < q → fx i + 1 ≤ fx (i + d + 1) := by
    intro d
    induction d with
    | zero => intro i hi; exact (h i hi).2
    | succ d ih => intro i hi; have := ih i (by omega); have := (h (i + d + 1) (by omega)).2; rw [show i + (d + 1) + 1 = i + d + 1 + 1 by omega]; omega
  have top : ∀ i, i < q → fx i + 1 ≤ x := fun i hi => by
    have := mono (q - 1 - i) i (by omega)
    rw [show i + (q - 1 - i) + 1 = q by omega] at this
    omega
  intro i j hij hj e
  rw [(h i (by omega)).1, (h j hj).1] at e
  have := mono (j - i - 1) i (by omega)
  rw [show i + (j - i - 1) + 1 = j by omega] at this
  exact hl _ _ this (by have := top j hj; omega) e

set_option maxRecDepth 100000 in
set_option maxHeartbeats 2000000 in
/-- The number at a place is the same whenever it is asked for. -/
theorem number_det (k n lb : Nat) (v : Value) (w : World) (hk : k ≤ 1000) (hn : n ≤ 100) (hs : U32s w v n) :
    ∃ z : Int, 0 ≤ z ∧ z < 4294967296 ∧ ∀ w', Below w.heap.size w w' → w'.cell? ⟨lb, 0, none⟩ = some v → Calls Tryz.prog 24 #[.int .i64 k, .pointer (some ⟨lb, 0, none⟩)] w' fun e w2 => e = .returned (.int .u32 z) ∧ ∃ nd, w2 = w'.drewN nd := by
  obtain ⟨a, cap, rfl, hs⟩ := hs
  by_cases h0 : n = 0
  · subst h0
    clear hs
    refine ⟨(k : Int) * 40503, ?ka2, ?ka3, fun w' hb hl => ?ka1⟩
    case ka1 =>
      clear hb
      go_enter Tryz.func24, Tryz.ntmps24
      go_wp2
      go_ret
      exact ⟨rfl, 0, rfl⟩
    case ka2 => omega
    case ka3 => omega
  · obtain ⟨b, off, rfl, hb0, hc⟩ := hs.resolve_left h0
    have hm : k % n < n := Nat.mod_lt _ (by omega)
    obtain ⟨z, hz, hz0, hz1⟩ := hc (k % n) hm
    have hn0 : ((n : Int) == 0) = false := by simpa using h0
    clear hc hs
    refine ⟨(z + wrap64 ((k : Int) / n) % 4294967296 * 2654435761 % 4294967296) % 4294967296, ?kb2, ?kb3, fun w' hb hl => ?kb1⟩
    case kb1 =>
      have hz := (hb.cell (p := ⟨b, off + k % n, none⟩) hb0).trans hz
      clear hb
      go_enter Tryz.func24, Tryz.ntmps24
      go_wp2_with fail
      go_quiet (fail)
      go_wp2
      go_ret
      exact ⟨rfl, nq, rfl⟩
    case kb2 => exact Int.emod_nonneg _ (by decide)
    case kb3 => exact Int.emod_lt_of_pos _ (by decide)

namespace Nam
/-- The fields that were found, in a slice of the call's own. -/
structure FldSt (W : World) (lv : Value) (B q : Nat) (v : Value) (xs : List Value) (fn : Nat → ByteArray) (fy : Nat → Ty) (fa fb fc : Nat → Nat) (w : World) : Prop where
  own : w.ownsRow B 56 5 v q xs
  row : ∀ i, i < q → PRow xs i (fn i) (.pointer (some ⟨fc i, 0, none⟩)) (fa i) (fb i) 0
  rep : ∀ i, i < q → Rep W Nowhere (fc i) (fy i)
  ok : ∀ i, i < q → (fn i).size = 1 ∧ FN (fy i)
  old : Below W.heap.size W w
  base : B = W.heap.size + 1
  cap : Blk w W.heap.size #[lv] 22
def FldLoop (W : World) (lv : Value) (ns : ByteArray) (px : Nat → Nat) (B n gk : Nat) (s5 s23 : Value) (w : World) : Prop :=
  ∃ i q v xs fn fy fa fb fc, FldSt W lv B q v xs fn fy fa fb fc w ∧ Hid (FNms ns (px i) q fn) ∧ i ≤ n ∧ q ≤ 2 * i ∧ n - i ≤ gk ∧ v = s5 ∧ s23 = .int .i64 (i : Nat)
theorem FldSt.start (W : World) (lv : Value) (fn : Nat → ByteArray) (fy : Nat → Ty) (fa fb fc : Nat → Nat) {g : Nat} (hg : g = W.heap.size + 1) :
    FldSt W lv (W.heap.size + 1) 0 (.slice (some ⟨g, 0, none⟩) 0 0) [] fn fy fa fb fc ((W.alloc (.cells #[lv] 22)).alloc (.cells #[] 56)) := by
  subst hg
  refine ⟨⟨rfl, .inr ⟨_, 0, #[], rfl, Nat.le_refl _, ?_, Nat.le_refl _, Nat.zero_le _, rfl, rfl⟩⟩, fun i h => by omega, fun i h => by omega, fun i h => by omega, ((Below.refl _ _).alloc (Nat.le_refl _) _).alloc (by simp) _, rfl, (Blk.new _ _ _).alloc _⟩
  exact Blk.newAt _ _ _ (by simp)
theorem flat_step {W w w1 : World} {lv : Value} {B q : Nat} {v : Value} {xs : List Value} {fn : Nat → ByteArray} {fy : Nat → Ty} {fa fb fc : Nat → Nat} (st : FldSt W lv B q v xs fn fy fa fb fc w) {w0 : World}
    (h0 : Below w.heap.size w w0) {m g cap : Nat} {news : List Value} {gn : Nat → ByteArray} {gy : Nat → Ty} {ga gb gc : Nat → Nat}
    (ha : Appended w0 B 56 5 v q m xs news g cap w1) (hrow : ∀ i, i < m → PRow news i (gn i) (.pointer (some ⟨gc i, 0, none⟩)) (ga i) (gb i) 0)
    (hrep : ∀ i, i < m → Rep W Nowhere (gc i) (gy i)) (hok : ∀ i, i < m → (gn i).size = 1 ∧ FN (gy i)) :
    ∃ fy' fa' fb' fc', FldSt W lv B (q + m) (.slice (some ⟨g, 0, none⟩) (q + m) cap) (xs ++ news) (fun i => if i < q then fn i else gn (i - q)) fy' fa' fb' fc' w1 := by
  have hl := st.own.1
  have hown : w0.ownsRow B 56 5 v q xs := ownsRow_of st.own fun g _ hl => h0.block g hl
  have hB := st.base
  refine ⟨fun i => if i < q then fy i else gy (i - q), fun i => if i < q then fa i else ga (i - q), fun i => if i < q then fb i else gb (i - q), fun i => if i < q then fc i else gc (i - q),
    ⟨ha.1, fun i hi => ?_, fun i hi => ?_, fun i hi => ?_, ?_, hB, ?_⟩⟩
  · by_cases h : i < q
    · simp only [if_pos h]; exact (st.row i h).left hl h
    · simp only [if_neg h]
      obtain ⟨r0, r1, r2, r3, r4⟩ := hrow (i - q) (by omega)
      refine ⟨?_, ?_, ?_, ?_, ?_⟩ <;> (rw [List.getElem?_append_right (by omega)])
      · rw [show 5 * i - xs.length = 5 * (i - q) by omega]; exact r0
      · rw [show 5 * i + 1 - xs.length = 5 * (i - q) + 1 by omega]; exact r1
      · rw [show 5 * i + 2 - xs.length = 5 * (i - q) + 2 by omega]; exact r2
      · rw [show 5 * i + 3 - xs.length = 5 * (i - q) + 3 by omega]; exact r3
      · rw [show 5 * i + 4 - xs.length = 5 * (i - q) + 4 by omega]; exact r4
  · by_cases h : i < q
    · simp only [if_pos h]; exact st.rep i h
    · simp only [if_neg h]; exact hrep _ (by omega)
  · by_cases h : i < q
    · simp only [if_pos h]; exact st.ok i h
    · simp only [if_neg h]; exact hok _ (by omega)
  · exact ha.below hown (st.old.trans (h0.mono st.old.size)) (by have := st.old.size; have := h0.size; omega) (by omega)
  · have hc := st.cap.old h0
    exact hc.app ha hown (by omega)

/-- A field that is being turned: its own cells. -/
structure PSt (w0 : World) (tb : Nat) (v : Value) (pk : Nat) (qn : ByteArray) (c : Nat) (y : Ty) (a bits : Nat) (w : World) : Prop where
  old : Below w0.heap.size w0 w
  lo : w0.heap.size ≤ pk
  blk : Blk w pk #[.string qn, .pointer (some ⟨c, 0, none⟩), .int .i64 a, .int .i64 bits, .int .i64 0] 56
  ty : FN y
  rep : Rep w (fun b => b = tb ∨ v.ownBlock = some b ∨ b = pk) c y
  bits : bits = 0 ∨ ∃ sz sg im, y = .int sz sg im ∧ 1 ≤ bits ∧ bits ≤ 8 * sz
/-- The parts are named after the fields from which they came, or not at all; no name comes twice. -/
def TNms (fn : Nat → ByteArray) (jx : Nat → Nat) (k c : Nat) (pn : Nat → ByteArray) : Prop :=
  (∀ i, i < c → pn i = ⟨#[]⟩ ∨ ∃ κ, κ < k ∧ pn i = fn (jx κ)) ∧ ∀ i j, i < j → j < c → pn i = ⟨#[]⟩ ∨ pn i ≠ pn j
theorem TNms.zero (fn : Nat → ByteArray) (jx : Nat → Nat) (pn : Nat → ByteArray) : TNms fn jx 0 0 pn := ⟨fun i h => by omega, fun i j h h' => by omega⟩
theorem TNms.skip {fn : Nat → ByteArray} {jx : Nat → Nat} {k c : Nat} {pn : Nat → ByteArray} (h : TNms fn jx k c pn) : TNms fn jx (k + 1) c pn :=
  ⟨fun i hi => (h.1 i hi).imp id fun ⟨κ, h1, h2⟩ => ⟨κ, by omega, h2⟩, h.2⟩
theorem TNms.step {fn : Nat → ByteArray} {jx : Nat → Nat} {k c : Nat} {pn : Nat → ByteArray} {qn : ByteArray} (h : TNms fn jx k c pn) (hd : ∀ κ, κ < k → fn (jx κ) ≠ fn (jx k)) (hq : qn = ⟨#[]⟩ ∨ qn = fn (jx k)) : TNms fn jx (k + 1) (c + 1) (upd pn c qn) := by
  refine ⟨fun i hi => ?_, fun i j hij hj => ?_⟩
  · by_cases hic : i < c
    · rw [upd_other _ _ hic]; exact h.skip.1 i hic
    · obtain rfl : i = c := by omega
      rw [upd_same]; exact hq.imp id fun e => ⟨k, Nat.lt_succ_self _, e⟩
  · have hic : i < c := by omega
    rw [upd_other _ _ hic]
    by_cases hjc : j < c
    · rw [upd_other _ _ hjc]; exact h.2 i j hij hjc
    · obtain rfl : j = c := by omega
      rw [upd_same]
      rcases h.1 i hic with e | ⟨κ, h1, e⟩
      · exact .inl e
      · rcases hq with rfl | rfl
        · by_cases e0 : pn i = ⟨#[]⟩
          · exact .inl e0
          · exact .inr e0
        · exact .inr (by rw [e]; exact hd κ h1)
/-- Which field is taken at a step. -/
def pick (rev : Bool) (q k : Nat) : Nat := if rev then q - 1 - k else k
theorem pick_ne {rev : Bool} {q k κ : Nat} {fn : Nat → ByteArray} (hd : ∀ i j, i < j → j < q → fn i ≠ fn j) (hk : k < q) (h : κ < k) : fn (pick rev q κ) ≠ fn (pick rev q k) := by
  unfold pick
  cases rev with
  | true => simp only [if_true]; exact (hd (q - 1 - k) (q - 1 - κ) (by omega) (by omega)).symm
  | false => exact hd κ k h hk
def TurnLoop (W : World) (tb : Nat) (nm : ByteArray) (fn : Nat → ByteArray) (jx : Nat → Nat) (q gk : Nat) (s9 s55 : Value) (w : World) : Prop :=
  ∃ k c at_ v xs pn py pa pb pc, StrSt W Nowhere FN 200 at_ tb nm c v xs pn py pa pb pc w ∧ Hid (TNms fn jx k c pn) ∧ c ≤ k ∧ k ≤ q ∧ at_ ≤ k * 1856 ∧ q - k ≤ gk ∧ s9 = .int .i64 (at_ : Nat) ∧ s55 = .int .i64 (k : Nat)
theorem PSt.of {W w0 w1 w : World} {tb : Nat} {nm : ByteArray} {c0 : Nat} {v : Value} {xs : List Value} {pn : Nat → ByteArray} {py : Nat → Ty} {pa pb pc : Nat → Nat} {A : Nat} {pk : Nat} {qn : ByteArray} {c : Nat} {y : Ty} {a bits : Nat}
    (su : StrSt W Nowhere FN 200 A tb nm c0 v xs pn py pa pb pc w0) (h1 : Below w0.heap.size w0 w1) (h2 : Below w0.heap.size w1 w) (lo : w0.heap.size ≤ pk)
    (blk : Blk w pk #[.string qn, .pointer (some ⟨c, 0, none⟩), .int .i64 a, .int .i64 bits, .int .i64 0] 56) (ty : FN y)
    (r : Rep w (fun b => b ≤ pk) c y ∨ ∃ w', Rep w' Nowhere c y ∧ Below w'.heap.size w' w ∧ w'.heap.size ≤ tb)
    (hb : bits = 0 ∨ ∃ sz sg im, y = .int sz sg im ∧ 1 ≤ bits ∧ bits ≤ 8 * sz) : PSt w0 tb v pk qn c y a bits w := by
  refine ⟨h1.trans h2, lo, blk, ty, ?_, hb⟩
  have hown : ∀ g, v.ownBlock = some g → tb + 1 ≤ g ∧ g < w0.heap.size := fun g hg => su.own.lt g hg
  rcases r with r | ⟨w', r, hb', hlt⟩
  · refine r.weaken fun b _ hx => ?_
    have hl := su.blk.lt
    rcases hx with hx | hx | hx
    · show b ≤ pk; omega
    · have := hown b hx; show b ≤ pk; omega
    · show b ≤ pk; omega
  · refine r.from_old hb' fun b hx => ?_
    have hl := su.blk.lt
    rcases hx with hx | hx | hx
    · omega
    · have := hown b hx; omega
    · omega
theorem PSt.arr {W w0 we w : World} {tb : Nat} {nm : ByteArray} {c0 : Nat} {v : Value} {xs : List Value} {pn : Nat → ByteArray} {py : Nat → Ty} {pa pb pc : Nat → Nat} {A : Nat} {qn : ByteArray} {c ac an n : Nat} {y au : Ty} {a : Nat} {zv : Int}
    (su : StrSt W Nowhere FN 200 A tb nm c0 v xs pn py pa pb pc w0) (pe : PSt w0 tb v w0.heap.size qn c y a 0 we) (hry : Rep w Nowhere c (.arr an au)) (hw : Below w.heap.size w we) (hwtb : w.heap.size ≤ tb)
    (hk4 : we.cell? ⟨c, 4, none⟩ = some (.pointer (some ⟨ac, 0, none⟩))) (hau : IntT au) (hz : zv = n) (h1 : 1 ≤ n) (h6 : n ≤ 6) :
    PSt w0 tb v w0.heap.size qn we.heap.size (.arr n au) a 0 ((we.setCell ⟨w0.heap.size, 1, none⟩ (.pointer (some ⟨we.heap.size, 0, none⟩))).alloc (.cells #[.int .i64 3, .string ⟨#[]⟩, .int .i64 zv, .bool false, .pointer (some ⟨ac, 0, none⟩), .slice none 0 0] 38)) := by
  subst hz
  have hown : ∀ g, v.ownBlock = some g → tb + 1 ≤ g ∧ g < w0.heap.size := fun g hg => su.own.lt g hg
  obtain ⟨c', _, _, h4, r'⟩ := hry.elem
  have hcl := hry.lt
  rw [← hw.cell (p := ⟨c, 4, none⟩) hcl, hk4] at h4
  simp only [Option.some.injEq, Value.pointer.injEq, Addr.mk.injEq, and_true] at h4
  subst h4
  have hsz : (we.setCell ⟨w0.heap.size, 1, none⟩ (.pointer (some ⟨we.heap.size, 0, none⟩))).heap.size = we.heap.size := by simp
  have hpl := pe.blk.lt
  have hbel : Below w0.heap.size we ((we.setCell ⟨w0.heap.size, 1, none⟩ (.pointer (some ⟨we.heap.size, 0, none⟩))).alloc (.cells #[.int .i64 3, .string ⟨#[]⟩, .int .i64 n, .bool false, .pointer (some ⟨ac, 0, none⟩), .slice none 0 0] 38)) :=
    (below_set _ _ _ _).alloc (by rw [hsz]; exact Nat.le_of_lt hpl) _
  have hss := su.blk.lt
  refine ⟨pe.old.trans hbel, Nat.le_refl _, (pe.blk.set 1 _).alloc _, .inl (.arr hau h1 h6), .arr (Blk.newAt _ _ _ hsz.symm) ?_ ?_, .inl rfl⟩
  · rintro (hx | hx | hx)
    · omega
    · have := hown _ hx; omega
    · omega
  · refine r'.from_old (hw.trans (hbel.mono (by omega))) fun b hx => ?_
    rcases hx with hx | hx | hx
    · omega
    · have := hown b hx; omega
    · omega
theorem PSt.pre {W w0 w : World} {tb : Nat} {nm : ByteArray} {c0 : Nat} {v : Value} {xs : List Value} {pn : Nat → ByteArray} {py : Nat → Ty} {pa pb pc : Nat → Nat} {A : Nat} {pk : Nat} {qn : ByteArray} {c : Nat} {y : Ty} {a bits : Nat}
    (su : StrSt W Nowhere FN 200 A tb nm c0 v xs pn py pa pb pc w0) (ps : PSt w0 tb v pk qn c y a bits w) (hq : qn.size = 1) (hb : BitsOk y a bits) :
    StrPre W Nowhere FN 200 A tb nm c0 v xs pn py pa pb pc w0.heap.size pk qn c y a bits w :=
  ⟨su.move ps.old, ps.blk, ps.rep.weaken (fun b _ hx => by rcases hx with hx | hx | hx; exact hx.elim; exact .inl hx; exact .inr (.inl hx)), .inl ⟨hq, ps.ty, hb⟩, ps.old.size⟩
theorem PSt.inner {W w0 we w : World} {tb : Nat} {nm : ByteArray} {c0 : Nat} {v : Value} {xs : List Value} {pn : Nat → ByteArray} {py : Nat → Ty} {pa pb pc : Nat → Nat} {A : Nat} {pk : Nat} {qn : ByteArray} {c : Nat} {y : Ty} {a a2 x2 bits gb ib sz : Nat}
    (su : StrSt W Nowhere FN 200 A tb nm c0 v xs pn py pa pb pc w0) (ps : PSt w0 tb v pk qn c y a bits we) (hq : qn.size = 1) (hb : BitsOk y x2 bits) (hx2 : x2 ≤ 63) (hsz : sz ≤ 216)
    (hold : ∀ b, b < we.heap.size → b ≠ pk → w.heap[b]? = we.heap[b]?) (hB : Below w0.heap.size we w)
    (hp : Blk w pk #[.string ⟨#[]⟩, .pointer (some ⟨ib, 0, none⟩), .int .i64 a2, .int .i64 0, .int .i64 0] 56)
    (hg : Blk w gb #[.string qn, .pointer (some ⟨c, 0, none⟩), .int .i64 x2, .int .i64 bits, .int .i64 0] 56) (hgl : we.heap.size ≤ gb)
    (hi : Blk w ib #[.int .i64 4, .string ⟨#[]⟩, .int .i64 sz, .bool false, .pointer none, .slice (some ⟨gb, 0, none⟩) 1 1] 38) (hil : we.heap.size ≤ ib) :
    ∃ y', StrPre W Nowhere FN 200 A tb nm c0 v xs pn py pa pb pc w0.heap.size pk ⟨#[]⟩ ib y' a2 0 w := by
  have hown : ∀ g, v.ownBlock = some g → tb + 1 ≤ g ∧ g < w0.heap.size := fun g hg => su.own.lt g hg
  have hss := su.blk.lt
  have hos := ps.old.size
  refine ⟨.comp false ⟨#[]⟩ sz 1 (fun _ => qn) (fun _ => y) (fun _ => x2) (fun _ => bits), ⟨su.move (ps.old.trans hB), hp, ?_, ?_, Nat.le_trans ps.old.size hB.size⟩⟩
  · refine .comp (v := .slice (some ⟨gb, 0, none⟩) 1 1) (xs := [.string qn, .pointer (some ⟨c, 0, none⟩), .int .i64 x2, .int .i64 bits, .int .i64 0]) (pc := fun _ => c) hi ?_ ⟨rfl, .inr ⟨gb, 1, _, rfl, Nat.zero_le _, hg, Nat.le_refl _, by decide, rfl, rfl⟩⟩ ?_ (fun i hi2 => ?_) (fun i hi2 => ?_)
    · rintro (hx | hx | hx)
      · exact hx
      · omega
      · have := hown _ hx; omega
    · intro g hg' hx
      have e : gb = g := by simpa [Value.ownBlock] using hg'
      rcases hx with hx | hx | hx
      · exact hx
      · omega
      · have := hown _ hx; omega
    · obtain rfl : i = 0 := by omega
      exact ⟨rfl, rfl, rfl, rfl, rfl⟩
    · refine ps.rep.keep (fun b hbl hd => hold b hbl (fun x => hd (.inr (.inr x)))) (fun b _ hx => ?_)
      rcases hx with hx | hx | hx
      · exact hx.elim
      · exact .inl hx
      · exact .inr (.inl hx)
  · exact .inr ⟨rfl, ⟨false, sz, 1, _, _, _, _, rfl, Nat.le_refl _, by omega, hsz, fun i _ => ⟨hq, ps.ty, hb, by omega⟩⟩, rfl⟩
theorem PSt.set_at {w0 w : World} {tb : Nat} {v : Value} {qn : ByteArray} {c : Nat} {y : Ty} {a bits a' : Nat} {z : Value} (ps : PSt w0 tb v w0.heap.size qn c y a bits w) (hz : z = .int .i64 (a' : Nat)) (n : Nat) :
    PSt w0 tb v w0.heap.size qn c y a' bits ((w.drewN n).setCell ⟨w0.heap.size, 2, none⟩ z) := by
  subst hz
  exact ⟨(below_drewN ps.old n).trans (below_set _ _ _ _), Nat.le_refl _, (ps.blk.drewN n).set 2 _, ps.ty, (ps.rep.drewN n).set_far (p := ⟨w0.heap.size, 2, none⟩) (.inr (.inr rfl)) (fun _ _ h => h) _, ps.bits⟩
theorem PSt.drewN {w0 w : World} {tb pk : Nat} {v : Value} {qn : ByteArray} {c : Nat} {y : Ty} {a bits : Nat} (ps : PSt w0 tb v pk qn c y a bits w) (n : Nat) : PSt w0 tb v pk qn c y a bits (w.drewN n) :=
  ⟨below_drewN ps.old n, ps.lo, ps.blk.drewN n, ps.ty, ps.rep.drewN n, ps.bits⟩
theorem PSt.put_at {w0 w : World} {tb : Nat} {v : Value} {qn : ByteArray} {c : Nat} {y : Ty} {a bits a' : Nat} {z : Value} (ps : PSt w0 tb v w0.heap.size qn c y a bits w) (hz : z = .int .i64 (a' : Nat)) :
    PSt w0 tb v w0.heap.size qn c y a' bits (w.setCell ⟨w0.heap.size, 2, none⟩ z) := by
  subst hz
  exact ⟨ps.old.trans (below_set _ _ _ _), Nat.le_refl _, ps.blk.set 2 _, ps.ty, ps.rep.set_far (p := ⟨w0.heap.size, 2, none⟩) (.inr (.inr rfl)) (fun _ _ h => h) _, ps.bits⟩
theorem PSt.inner_at {W w0 we : World} {tb : Nat} {nm : ByteArray} {c0 : Nat} {v : Value} {xs : List Value} {pn : Nat → ByteArray} {py : Nat → Ty} {pa pb pc : Nat → Nat} {A : Nat} {qn : ByteArray} {c : Nat} {y : Ty} {a a2 bits sz : Nat} {z2 zx zs : Int}
    (su : StrSt W Nowhere FN 200 A tb nm c0 v xs pn py pa pb pc w0) (ps : PSt w0 tb v w0.heap.size qn c y a bits we) (hq : qn.size = 1) (hb : BitsOk y (a % 64) bits) (hsz : sz ≤ 216) (hz2 : z2 = a2) (hzx : zx = (a % 64 : Nat)) (hzs : zs = sz) :
    ∃ y', StrPre W Nowhere FN 200 A tb nm c0 v xs pn py pa pb pc w0.heap.size w0.heap.size ⟨#[]⟩ (we.heap.size + 1) y' a2 0
      (((((((we.setCell ⟨w0.heap.size, 0, none⟩ (.string ⟨#[]⟩)).setCell ⟨w0.heap.size, 1, none⟩ (.pointer (some ⟨we.heap.size + 1, 0, none⟩))).setCell ⟨w0.heap.size, 2, none⟩ (.int .i64 z2)).setCell ⟨w0.heap.size, 3, none⟩ (.int .i64 0)).setCell ⟨w0.heap.size, 4, none⟩ (.int .i64 0)).alloc
        (.cells #[.string qn, .pointer (some ⟨c, 0, none⟩), .int .i64 zx, .int .i64 bits, .int .i64 0] 56)).alloc (.cells #[.int .i64 4, .string ⟨#[]⟩, .int .i64 zs, .bool false, .pointer none, .slice (some ⟨we.heap.size, 0, none⟩) 1 1] 38)) := by
  subst hz2 hzx hzs
  have hpl := ps.blk.lt
  have h5 := ((((ps.blk.set 0 (.string ⟨#[]⟩)).set 1 (.pointer (some ⟨we.heap.size + 1, 0, none⟩))).set 2 (.int .i64 a2)).set 3 (.int .i64 0)).set 4 (.int .i64 0)
  have hB5 : Below w0.heap.size we ((((((we.setCell ⟨w0.heap.size, 0, none⟩ (.string ⟨#[]⟩)).setCell ⟨w0.heap.size, 1, none⟩ (.pointer (some ⟨we.heap.size + 1, 0, none⟩))).setCell ⟨w0.heap.size, 2, none⟩ (.int .i64 a2)).setCell ⟨w0.heap.size, 3, none⟩ (.int .i64 0)).setCell ⟨w0.heap.size, 4, none⟩ (.int .i64 0))) :=
    ((((below_set _ _ _ _).trans (below_set _ _ _ _)).trans (below_set _ _ _ _)).trans (below_set _ _ _ _)).trans (below_set _ _ _ _)
  have hhold : ∀ b, b ≠ w0.heap.size → ((((((we.setCell ⟨w0.heap.size, 0, none⟩ (.string ⟨#[]⟩)).setCell ⟨w0.heap.size, 1, none⟩ (.pointer (some ⟨we.heap.size + 1, 0, none⟩))).setCell ⟨w0.heap.size, 2, none⟩ (.int .i64 a2)).setCell ⟨w0.heap.size, 3, none⟩ (.int .i64 0)).setCell ⟨w0.heap.size, 4, none⟩ (.int .i64 0))).heap[b]? = we.heap[b]? := by
    intro b n1
    rw [Below.heap_setCell _ _ _ _ n1, Below.heap_setCell _ _ _ _ n1, Below.heap_setCell _ _ _ _ n1, Below.heap_setCell _ _ _ _ n1, Below.heap_setCell _ _ _ _ n1]
  have hs5 : ((((((we.setCell ⟨w0.heap.size, 0, none⟩ (.string ⟨#[]⟩)).setCell ⟨w0.heap.size, 1, none⟩ (.pointer (some ⟨we.heap.size + 1, 0, none⟩))).setCell ⟨w0.heap.size, 2, none⟩ (.int .i64 a2)).setCell ⟨w0.heap.size, 3, none⟩ (.int .i64 0)).setCell ⟨w0.heap.size, 4, none⟩ (.int .i64 0))).heap.size = we.heap.size := by simp
  revert h5 hB5 hhold hs5
  generalize ((((((we.setCell ⟨w0.heap.size, 0, none⟩ (.string ⟨#[]⟩)).setCell ⟨w0.heap.size, 1, none⟩ (.pointer (some ⟨we.heap.size + 1, 0, none⟩))).setCell ⟨w0.heap.size, 2, none⟩ (.int .i64 a2)).setCell ⟨w0.heap.size, 3, none⟩ (.int .i64 0)).setCell ⟨w0.heap.size, 4, none⟩ (.int .i64 0))) = w5
  intro h5 hB5 hhold hs5
  refine ps.inner su hq hb (Nat.le_of_lt_succ (Nat.mod_lt _ (by omega))) hsz (gb := we.heap.size) (fun b hb hne => ?_) ?_ ((h5.alloc _).alloc _) ((Blk.newAt _ _ _ hs5.symm).alloc _) (Nat.le_refl _) (Blk.newAt _ _ _ (by simp [hs5])) (Nat.le_succ _)
  · rw [Below.heap_alloc _ _ _ (by simp [hs5]; omega), Below.heap_alloc _ _ _ (by rw [hs5]; exact hb), hhold b hne]
  · exact (hB5.alloc (by rw [hs5]; omega) _).alloc (by simp [hs5]; omega) _
/-- What turnedOf gives: a struct in the making, its size set; no name comes twice. -/
def Turned (W : World) (nm : ByteArray) (e : Ending) (w' : World) : Prop :=
  ∃ (wq w2 : World) (tb A c : Nat) (v : Value) (xs : List Value) (pn : Nat → ByteArray) (py : Nat → Ty) (pa pb pc : Nat → Nat) (z : Value), e = .returned (.pointer (some ⟨tb, 0, none⟩)) ∧ StrSt wq Nowhere FN 200 A tb nm c v xs pn py pa pb pc w2 ∧
    c ≤ 40 ∧ A ≤ 100000 ∧ Below W.heap.size W wq ∧ z = .int .i64 ((A + 63) / 64 * 8 : Nat) ∧ w' = w2.setCell ⟨tb, 2, none⟩ z ∧ ∀ i j, i < j → j < c → pn i = ⟨#[]⟩ ∨ pn i ≠ pn j
end Nam
end Go.Proofs.YtfilbgmbmlmdbaaGreatDoor

namespace Go.Proofs.YtfilbgmbmlmdbaaGreatDoor
open Go.RowKit
namespace Nam
set_option maxRecDepth 100000 in
set_option maxHeartbeats 20000000 in
theorem turnedOf_any (ab : Nat) (nm : ByteArray) (mx : Nat) (t : Ty) (ln : Nat) (lv : Value) (w : World) (r : Rep w Nowhere ab t) {A : Prop} {ns : ByteArray} (ht : StrN A FN 200 mx nm ns t) (hl : Letters ns) (hT : TypeC 1 FN) (hln : ln ≤ 100) (hs : U32s w lv ln) :
    Calls Tryz.prog 8 #[.pointer (some ⟨ab, 0, none⟩), lv] w (Turned w nm) := by
  obtain ⟨sz, n, pn, py, pa, pb, rfl, hn, hsz, hok, nx, hnx, px, hpx, hpn⟩ := ht
  have Hs := Lib.hid hs
  have Hpx := Lib.hid hpx
  have Hpn := Lib.hid hpn
  clear hpx hpn
  obtain ⟨z2, hy0, hy1, h99⟩ := number_det 99 ln w.heap.size lv w (by omega) hln hs
  have H99 := Lib.hid h99
  clear h99
  obtain ⟨la, lcap, rfl, -⟩ := hs
  obtain ⟨pv, pxs, pc, hblk, hown, hrow, hrep⟩ := r.comp_inv
  obtain ⟨sa, scap, rfl⟩ := own_slice hown
  obtain ⟨_, _, _, _, _, c5⟩ := hblk.six
  have hablt := hblk.lt
  go_enter Tryz.func8, Tryz.ntmps8
  go_wp2
  go_loopg [5, 23] n (fun gk a b wr => FldLoop w (.slice la ln lcap) ns px (w.heap.size + 1) n gk a b wr)
  case atStart => exact ⟨0, 0, _, [], fun _ => ⟨#[]⟩, fun _ => .int 0 false ⟨#[]⟩, fun _ => 0, fun _ => 0, fun _ => 0, FldSt.start w _ _ _ _ _ _ (by simp), Lib.hid (FNms.zero _ _ _), Nat.zero_le _, Nat.le_refl _, Nat.le_refl _, rfl, rfl⟩
  case round =>
    obtain ⟨i, q, v, xs, fn, fy, fa, fb, fc, st, Hfn, hi, hq, hgk, rfl, rfl⟩ := hrel
    by_cases hlt : i < n
    · obtain ⟨sg, scap', hse, hsgl⟩ := own_form hown (by omega)
      simp only [Value.slice.injEq] at hse
      obtain ⟨rfl, -, rfl⟩ := hse
      have hown' : wr.ownsRow 0 56 5 (.slice (some ⟨sg, 0, none⟩) n scap) n pxs := ownsRow_of hown fun g hg hl => st.old.block g hl
      obtain ⟨p0, p1, p2, p3, p4⟩ := row_cells hown' (hrow i hlt)
      rcases (hok i hlt).1 with ⟨hnm, hy, hbits⟩ | ⟨hnm, hy, hb0⟩
      · as_aux_lemma =>
        have hne := name_full hnm
        have Hone : Hid (pn i = ns.extract (px i) (px i + 1) ∧ px i + 1 ≤ px (i + 1)) := Lib.hid ((Hpx.out i hlt).elim id fun x => by rw [x.2.1] at hnm; cases hnm)
        have hB : w.heap.size + 1 ≤ wr.heap.size := st.cap.lt
        go_wp2_with (at_builtin; refine wpList_app elemParts (.tmp 37) (.tmp 39) rfl rfl (w.heap.size + 1) v q xs rfl ((st.own.alloc _).alloc _) (wr.heap.size + 1) 1 1 _ rfl (Blk.newAt _ _ _ (by simp)) rfl rfl (by decide) ?_ ?h1 ?h2 ?h3; intro g cap w1 ha)
        case h1 => omega
        case h2 => unfold maxLen; omega
        case h3 => simp; omega
        obtain ⟨fy', fa', fb', fc', st'⟩ := flat_step st (((Below.refl _ _).alloc (Nat.le_refl _) _).alloc (by simp) _) ha (gn := fun _ => pn i) (gy := fun _ => py i) (ga := fun _ => pa i) (gb := fun _ => pb i) (gc := fun _ => pc i)
          (fun j hj => by obtain rfl : j = 0 := by omega
                          exact ⟨rfl, rfl, rfl, rfl, rfl⟩) (fun j _ => hrep i hlt) (fun j _ => ⟨hnm, hy⟩)
        go_roundg (n - (i + 1))
        case measure => omega
        case rel => exact ⟨i + 1, q + 1, _, _, _, _, _, _, _, st', Lib.hid (Hfn.out.step (Nat.le_refl _) Hone.out.2 (fun j hj => if_pos hj) ((if_neg (Nat.lt_irrefl q)).trans Hone.out.1)), by omega, by omega, Nat.le_refl _, rfl, by go_num⟩
      · as_aux_lemma =>
        have hne := name_nil hnm
        have hB : w.heap.size + 1 ≤ wr.heap.size := st.cap.lt
        obtain ⟨un2, sz2, n2, pn2, py2, pa2, pb2, hpy, hn21, hn22, -, hok2⟩ := hy
        have Htwo : Hid (n2 = 2 ∧ (∀ j, pn2 j = upd (fun _ => ns.extract (px i) (px i + 1)) 1 (ns.extract (px i + 1) (px i + 1 + 1)) j) ∧ px i + 2 ≤ px (i + 1)) := by
          refine Lib.hid ?_
          rcases Hpx.out i hlt with ⟨e, h2⟩ | ⟨_, _, ⟨un3, sz3, py3, pa3, pb3, e⟩, h2⟩
          · exfalso
            have := nm_top Hpx.out Hpn.out i hlt
            rw [e, ByteArray.size_extract] at hnm
            omega
          · rw [hpy] at e
            simp only [Ty.comp.injEq] at e
            obtain ⟨-, -, -, e2, e3, -⟩ := e
            exact ⟨e2, fun j => by rw [e3], h2⟩
        have hrepi := hrep i hlt
        rw [hpy] at hrepi
        obtain ⟨pv2, pxs2, pc2, hblk2, hown2, hrow2, hrep2⟩ := hrepi.comp_inv
        obtain ⟨sg2, scap2, rfl, hsg2⟩ := own_form hown2 (by omega)
        obtain ⟨-, -, -, -, -, r5⟩ := (hblk2.old st.old).six
        have hown2' : wr.ownsRow 0 56 5 (.slice (some ⟨sg2, 0, none⟩) n2 scap2) n2 pxs2 := ownsRow_of hown2 fun g hg hl => st.old.block g hl
        have hpcl : pc i < wr.heap.size := (hblk2.old st.old).lt
        clear hpy
        go_wp2_with (at_builtin; refine wpList_app_row elemParts (.tmp 30) (.tmp 35) rfl rfl (w.heap.size + 1) v q xs rfl (st.own.alloc _) 0 sg2 n2 scap2 pxs2 rfl (hown2'.alloc _) (rows_one hown2.1 (fun _ => rfl) hrow2) ?h0 ?_ ?h1 ?h2 ?h3; rotate_left; intro g cap w1 ha)
        case h0 => omega
        case h1 => omega
        case h2 => unfold maxLen; omega
        case h3 => simp; omega
        obtain ⟨fy', fa', fb', fc', st'⟩ := flat_step st ((Below.refl _ _).alloc (Nat.le_refl _) _) ha hrow2 hrep2 (fun j hj => ⟨(hok2 j hj).1, (hok2 j hj).2.1⟩)
        go_roundg (n - (i + 1))
        case measure => omega
        case rel => exact ⟨i + 1, q + n2, _, _, _, _, _, _, _, st', Lib.hid (by
          obtain ⟨e2, e3, hp2⟩ := Htwo.out
          rw [e2]
          exact Hfn.out.two (Nat.le_refl _) hp2 (fun j hj => if_pos hj) (by rw [if_neg (Nat.lt_irrefl q), Nat.sub_self, e3]; rfl) (by rw [if_neg (by omega), show q + 1 - q = 1 by omega, e3]; rfl)), by omega, by omega, Nat.le_refl _, rfl, by go_num⟩
    · obtain ⟨wq, rfl⟩ : ∃ wq : World, wq = wr := ⟨_, rfl⟩
      have hie : i = n := by omega
      have Hie := Lib.hid hie
      clear hie
      obtain ⟨a0, a1, -⟩ := (hblk.old st.old).six
      have hablt2 : ab < wq.heap.size := Nat.lt_of_lt_of_le hablt st.old.size
      obtain ⟨va, vcap, rfl⟩ := own_slice st.own
      go_wp2_with fail
      go_region_held3 (fun w' => w'.cell? ⟨ab, 0, none⟩ = some (.int .i64 4) ∧ w'.cell? ⟨ab, 1, none⟩ = some (.string nm)) (go_keep) (first | fail)
      go_wp2_with fail
      clear hgk
      have Hd : Hid (∀ i j, i < j → j < q → fn i ≠ fn j) := Lib.hid (Hfn.out.distinct (by rw [Hie.out, Hpn.out]; exact hnx) hl)
      clear Hfn Hpx
      go_loopg [9, 55] q (fun gk s9 s55 w2 => TurnLoop wq wq.heap.size nm fn (pick (z2 % 2 == 1) q) q gk s9 s55 w2)
      case atStart => exact ⟨0, 0, 0, _, [], fun _ => ⟨#[]⟩, fun _ => .int 0 false ⟨#[]⟩, fun _ => 0, fun _ => 0, fun _ => 0, ((StrSt.start wq nm Nowhere (fun _ h => h.elim) FN 200 _ _ _ _ _).move ((Below.refl _ _).drew)), Lib.hid (TNms.zero _ _ _), Nat.le_refl _, Nat.zero_le _, Nat.zero_le _, Nat.le_refl _, rfl, rfl⟩
      case round =>
        obtain ⟨k, c, at_, v, xs', pn', py', pa', pb', pc', su, Htn, hck, hkq, hat, hgk2, rfl, rfl⟩ := hrel
        have hatb : at_ ≤ 100000 := Nat.le_trans hat (Nat.le_trans (Nat.mul_le_mul_right 1856 (show k ≤ 40 by omega)) (by decide))
        have Hat := Lib.hid hat
        clear hat
        obtain ⟨-, -, c2, -, -, c5'⟩ := su.blk.six
        have f2 := su.blk.free 2
        have f5 := su.blk.free 5
        by_cases hlt : k < q
        · have hlv := (st.cap.old su.old).cell 0
          simp only [List.getElem?_toArray, List.getElem?_cons_zero] at hlv
          have hwq : Below w.heap.size w wr := st.old.trans (su.old.mono st.old.size)
          go_wp2_with fail
          refine (number_any k ln w.heap.size _ _ (by omega) hln hlv (Hs.out.old hwq)).mono ?_
          rintro e w3 ⟨z, rfl, hz0, hz1, nd, rfl⟩
          go_wp2_with fail
          refine (H99.out (wr.drewN nd) (below_drewN hwq nd) hlv).mono ?_
          rintro e w3 ⟨rfl, nd2, rfl⟩
          have hbit := u32_mask1 z2 hy0 hy1
          go_upto_if 65 with fail
          go_cut [13] (fun s13 wx => ∃ jn : Nat, s13 = .int .i64 jn ∧ Hid (jn = pick (z2 % 2 == 1) q k) ∧ jn < q ∧ Below wr.heap.size wr wx)
          case first =>
            by_cases hb1 : (z2 % 2 == 1) = true
            · go_wp2_with fail
              go_meet
              exact ⟨q - 1 - k, congrArg (Value.int .i64) (by omega), Lib.hid (by rw [hb1]; rfl), by omega, below_drewN (Below.refl _ _) _⟩
            · have hb2 : (z2 % 2 == 1) = false := by simpa using hb1
              clear hb1
              go_wp2_with fail
              go_meet
              exact ⟨k, rfl, Lib.hid (by rw [hb2]; rfl), hlt, below_drewN (Below.refl _ _) _⟩
          case rest =>
            obtain ⟨jn, rfl, Hjx, hjq, hwc⟩ := hcut
            clear hbit hy0 hy1 c2 c5' f2 f5 hlv
            have sv := su.move hwc
            have hwq : Below w.heap.size w wc := hwq.trans (hwc.mono hwq.size)
            obtain ⟨-, -, c2, -, -, c5'⟩ := sv.blk.six
            have f2 := sv.blk.free 2
            have f5 := sv.blk.free 5
            obtain ⟨wd, rfl⟩ : ∃ wd : World, wd = wc := ⟨_, rfl⟩
            obtain ⟨fg, fcap, hfe, hfgl⟩ := own_form st.own (by omega)
            simp only [Value.slice.injEq] at hfe
            obtain ⟨rfl, -, rfl⟩ := hfe
            have hownr : wd.ownsRow (w.heap.size + 1) 56 5 (.slice (some ⟨fg, 0, none⟩) q vcap) q xs := ownsRow_of st.own fun g hg hl => sv.old.block g hl
            obtain ⟨p0, p1, p2, p3, p4⟩ := row_cells hownr (st.row jn hjq)
            have hfy := (st.ok jn hjq).2
            have hry := st.rep jn hjq
            have hryr := hry.old hwq
            have hcl := hryr.lt
            go_upto_block 4 with fail
            go_cut [14] (fun s14 wx => s14 = .pointer (some ⟨wd.heap.size, 0, none⟩) ∧ ∃ cb y bits, PSt wd wq.heap.size v wd.heap.size (fn jn) cb y (fa jn) bits wx)
            case first => as_aux_lemma =>
              refine wp_world (PSt wd wq.heap.size v wd.heap.size (fn jn) (fc jn) (fy jn) (fa jn) 0) ?_ (fun we pe => ?_)
              · exact PSt.of sv (Below.refl _ _) ((Below.refl _ _).alloc (Nat.le_refl _) _) (Nat.le_refl _) (Blk.new _ _ _) hfy (.inr ⟨w, hry, hwq.trans (((Below.refl _ _).alloc (Nat.le_refl _) _).mono hwq.size), st.old.size⟩) (.inl rfl)
              · obtain ⟨p0, p1, p2, p3, p4⟩ := pe.blk.five
                have g1 := pe.blk.free 1
                have g3 := pe.blk.free 3
                have hpl : wd.heap.size < we.heap.size := pe.blk.lt
                have hrye := hry.old (hwq.trans (pe.old.mono hwq.size))
                have hcle := hrye.lt
                rcases bool_four (z / 16 % 8) with hz8 | ⟨hz7, hz8⟩ | ⟨hz6, hz7, hz8⟩ | ⟨hz5, hz6, hz7, hz8⟩ | ⟨hz4, hz5, hz6, hz7⟩
                · go_wp2_with fail
                  go_roundg (q - (k + 1))
                  case measure => omega
                  case rel => exact ⟨k + 1, c, at_, _, _, _, _, _, _, _, sv.move pe.old, Lib.hid Htn.out.skip, by omega, by omega, Nat.le_trans Hat.out (Nat.mul_le_mul_right _ (Nat.le_succ _)), Nat.le_refl _, rfl, by go_num⟩
                · go_wp2_with fail
                  refine (hT (z / 128) _ (by omega) (by omega)).mono ?_
                  rintro e w5 ⟨b5, t5, rfl, r5, hf5, hb5⟩
                  have bp5 := pe.blk.old hb5
                  obtain ⟨q0, q1, q2, q3, q4⟩ := bp5.five
                  have e1 := bp5.free 1
                  clear p0 p1 p2 p3 p4 g1 g3
                  go_wp2_with fail
                  go_meet
                  exact ⟨rfl, b5, t5, 0, PSt.of sv (pe.old.trans (hb5.mono pe.old.size)) (below_set _ _ _ _) (Nat.le_refl _) (bp5.set 1 _) hf5 (.inl (r5.set_lt hpl (fun b h => Nat.lt_of_le_of_lt h hpl) _)) (.inl rfl)⟩
                · rcases hrye.kinds with ⟨sz', sg', im', hye, hk0⟩ | ⟨an, au, ac, hye, hk0, hk4, rau⟩ | ⟨tk, hk0, tk1, tk3⟩
                  · go_wp2_with fail
                    go_meet
                    exact ⟨rfl, _, _, 0, pe⟩
                  · rw [hye] at hfy hry
                    have hau := hfy.arr
                    clear hye
                    go_wp2_with fail
                    go_meet
                    exact ⟨rfl, we.heap.size, .arr (1 + z / 128 % 6).toNat au, 0, PSt.arr sv pe hry (hwq.trans (pe.old.mono hwq.size)) st.old.size hk4 hau (by omega) (by omega) (by omega)⟩
                  · go_wp2_with fail
                    go_meet
                    exact ⟨rfl, _, _, 0, pe⟩
                · rcases hrye.kinds with ⟨sz', sg', im', hye, hk0⟩ | ⟨an, au, ac, hye, hk0, hk4, rau⟩ | ⟨tk, hk0, tk1, tk3⟩
                  · clear hye
                    go_wp2_with fail
                    refine (intOf_int (z / 128) _ (by omega) (by omega)).mono ?_
                    rintro e w5 ⟨b5, t5, rfl, r5, hf5, hb5⟩
                    have bp5 := pe.blk.old hb5
                    obtain ⟨q0, q1, q2, q3, q4⟩ := bp5.five
                    have e1 := bp5.free 1
                    have e3 := bp5.free 3
                    obtain ⟨s5, hs5, hy5, c52⟩ := r5.int_size hf5
                    have hs5a : 1 ≤ s5 := by omega
                    have hs5b : s5 ≤ 8 := by omega
                    clear p0 p1 p2 p3 p4 g1 g3 hs5
                    obtain ⟨bt, hbt, hbt1, hbt2⟩ : ∃ bt : Nat, 1 + z / 1024 % (8 * (s5 : Int)) = (bt : Int) ∧ 1 ≤ bt ∧ bt ≤ 8 * s5 := by
                      have hq1 : 0 ≤ z / 1024 % (8 * (s5 : Int)) := Int.emod_nonneg _ (by omega)
                      have hq2 : z / 1024 % (8 * (s5 : Int)) < 8 * (s5 : Int) := Int.emod_lt_of_pos _ (by omega)
                      exact ⟨(1 + z / 1024 % (8 * (s5 : Int))).toNat, by omega, by omega, by omega⟩
                    have hb5ne : b5 ≠ wd.heap.size := fun x => by have := r5.not; omega
                    go_wp2_with fail
                    go_meet
                    obtain ⟨sg5, im5, rfl⟩ := hy5
                    exact ⟨rfl, b5, _, bt, PSt.of sv (pe.old.trans (hb5.mono pe.old.size)) ((below_set _ _ _ _).trans (below_set _ _ _ _)) (Nat.le_refl _) ((bp5.set 1 _).set 3 _) (.inl (.int hf5)) (.inl (((r5.set_lt hpl (D := (· < we.heap.size)) (fun b h => h) _).set_lt hpl (fun b h => Nat.lt_of_le_of_lt h hpl) _))) (.inr ⟨s5, sg5, im5, rfl, hbt1, hbt2⟩)⟩
                  · go_wp2_with fail
                    go_meet
                    exact ⟨rfl, _, _, 0, pe⟩
                  · go_wp2_with fail
                    go_meet
                    exact ⟨rfl, _, _, 0, pe⟩
                · go_wp2_with fail
                  all_goals
                    go_meet
                    exact ⟨rfl, _, _, 0, pe⟩
            case rest =>
              obtain ⟨rfl, cb, y, bits, ps⟩ := hcut
              obtain ⟨wf, rfl⟩ : ∃ wf : World, wf = wc := ⟨_, rfl⟩
              have hty := ps.ty.flat
              have hrl := ps.rep.lt
              have hfpl : wd.heap.size < wf.heap.size := ps.blk.lt
              obtain ⟨-, p1, p2, p3, -⟩ := ps.blk.five
              have g2 := ps.blk.free 2
              have g3 := ps.blk.free 3
              go_wp2_with fail
              refine (bytes_any _ cb y _ ps.rep hty.2).mono ?_
              rintro e w6 ⟨rfl, nd6, rfl⟩
              obtain ⟨hty1, -⟩ := hty
              go_upto_if 143 with fail
              go_cut [15] (fun s15 wx => s15 = .int .i64 y.bytes ∧ ∃ a', Placed y ((at_ + 63) / 64 * 64) a' bits ∧ PSt wd wq.heap.size v wd.heap.size (fn jn) cb y a' bits wx)
              case first =>
                rcases ps.bits with hb0 | ⟨sz', sg', im', hye, hb1, hb2⟩
                · subst hb0
                  go_wp2_with fail
                  go_meet
                  exact ⟨rfl, (at_ + 63) / 64 * 64, ⟨0, (Nat.add_zero _).symm, by omega, .inl ⟨rfl, rfl⟩⟩, ps.set_at (by go_num) nd6⟩
                · subst hye
                  have hb0 : (0 : Int) < bits := by omega
                  have hbb : (Ty.int sz' sg' im').bytes = sz' := rfl
                  have hsz8 := ps.ty.size
                  rw [hbb] at hty1 ⊢
                  clear hbb
                  obtain ⟨dv, hdv, hd1, hd2⟩ : ∃ dv : Nat, 8 * (sz' : Int) - bits + 1 = (dv : Int) ∧ 1 ≤ dv ∧ dv + bits = 8 * sz' + 1 := ⟨8 * sz' + 1 - bits, by omega, by omega, by omega⟩
                  go_wp2_with fail
                  refine wp_world (PSt wd wq.heap.size v wd.heap.size (fn jn) cb (.int sz' sg' im') ((at_ + 63) / 64 * 64) bits) (ps.set_at (by go_num) nd6) (fun wh ph => ?_)
                  obtain ⟨a1, ha1, ha1b⟩ : ∃ a1 : Nat, (at_ + 63) / 64 * 64 = a1 ∧ a1 ≤ 100063 := ⟨_, rfl, by omega⟩
                  rw [ha1] at ph
                  obtain ⟨-, -, h2, h3, -⟩ := ph.blk.five
                  have f2' := ph.blk.free 2
                  clear p1 p2 p3 g2 g3
                  have e1 : IntKind.i64.wrap (8 * (sz' : Int)) = 8 * sz' := IntWalk.i64_in _ (by omega)
                  have e2 : IntKind.i64.wrap (8 * (sz' : Int) - bits) = 8 * sz' - bits := IntWalk.i64_in _ (by omega)
                  have e3 : IntKind.i64.wrap (dv : Int) = dv := IntWalk.i64_in _ (by omega)
                  have e4 : IntKind.u32.wrap (dv : Int) = dv := IntWalk.u32_in _ (by omega)
                  have e5 : ¬ (dv : Int) = 0 := by omega
                  obtain ⟨x, hx, hx2⟩ : ∃ x : Nat, z / 65536 % (dv : Int) = x ∧ x < dv := by
                    have q1 := Int.emod_nonneg (z / 65536) (show (dv : Int) ≠ 0 by omega)
                    have q2 := Int.emod_lt_of_pos (z / 65536) (show (0 : Int) < dv by omega)
                    exact ⟨(z / 65536 % (dv : Int)).toNat, by omega, by omega⟩
                  have e6 : IntKind.i64.wrap (x : Int) = x := IntWalk.i64_in _ (by omega)
                  have e7 : IntKind.i64.wrap ((a1 : Int) + x) = a1 + x := IntWalk.i64_in _ (by omega)
                  have e8 : ¬ dv = 0 := by omega
                  have e9 : (z / 65536).tmod (dv : Int) = x := by rw [Int.tmod_eq_emod_of_nonneg (by omega)]; exact hx
                  go_still_tail 15, (by kernel_rfl)
                  go_wp2_with fail
                  go_meet
                  exact ⟨rfl, a1 + x, ⟨x, by rw [ha1], by omega, .inr ⟨_, _, _, rfl, hb1, by omega⟩⟩, (ph.put_at (by go_num)).drewN 1⟩
              case rest =>
                obtain ⟨rfl, a', hpl', ps'⟩ := hcut
                obtain ⟨hpl1, hpl2⟩ := hpl'.le
                have hqs := (st.ok jn hjq).1
                have hbo := hpl'.ok ps'.ty.ft (by omega)
                have h7 := u32_mask7 (z / 1048576) (by omega) (by omega)
                obtain ⟨wg, rfl⟩ : ∃ wg : World, wg = wc := ⟨_, rfl⟩
                clear p1 p2 p3 g2 g3
                obtain ⟨p0, p1, p2, p3, p4⟩ := ps'.blk.five
                have hgpl : wd.heap.size < wg.heap.size := ps'.blk.lt
                have g0 := ps'.blk.free 0
                have g1 := ps'.blk.free 1
                have g2 := ps'.blk.free 2
                have g3 := ps'.blk.free 3
                have g4 := ps'.blk.free 4
                go_upto_if 171 with fail
                go_cut [9, 16] (fun s9 s16 wx => ∃ (qn : ByteArray) (qc : Nat) (qy : Ty) (qa qb at' : Nat), s9 = .int .i64 at' ∧ StrPre wq Nowhere FN 200 at_ wq.heap.size nm c v xs' pn' py' pa' pb' pc' wd.heap.size wd.heap.size qn qc qy qa qb wx ∧ at_ ≤ at' ∧ qa ≤ at' ∧ at' ≤ at_ + 1856 ∧ Hid (qn = ⟨#[]⟩ ∨ qn = fn jn))
                case first =>
                  by_cases h8 : (z / 1048576 % 8 == 1) = true
                  · go_wp2_with fail
                    go_meet
                    obtain ⟨y', hpre⟩ := PSt.inner_at (a2 := a' / 64 * 64) (sz := (a' % 64 + 8 * y.bytes + 63) / 64 * 8) (z2 := ↑a' / 64 * 64) (zx := ↑a' % 64) (zs := (↑a' % 64 + 8 * ↑y.bytes + 63) / 64 * 8) sv ps' hqs hbo.2 (by omega) (by omega) (by omega) (by omega)
                    exact ⟨_, _, y', _, _, (at_ + 63) / 64 * 64 + 64 * ((y.bytes + 7) / 8) + 64, by go_num, hpre, by omega, by omega, by omega, Lib.hid (.inl rfl)⟩
                  · have h9 : (z / 1048576 % 8 == 1) = false := by simpa using h8
                    clear h8
                    go_wp2_with fail
                    go_meet
                    exact ⟨_, _, _, _, _, (at_ + 63) / 64 * 64 + 64 * ((y.bytes + 7) / 8), by go_num, PSt.pre sv ps' hqs hbo.1, by omega, hpl2, by omega, Lib.hid (.inr rfl)⟩
                case rest =>
                  obtain ⟨qn, qc, qy, qa, qb, at', rfl, pre, hat1, hat2, hat3, Hqn⟩ := hcut
                  clear p0 p1 p2 p3 p4 g0 g1 g2 g3 g4 c2 c5' f2 f5 h7 hgpl hfpl
                  obtain ⟨p0, p1, p2, p3, p4⟩ := pre.blk.five
                  obtain ⟨-, -, -, -, -, q5⟩ := pre.st.blk.six
                  have g5 := pre.st.blk.free 5
                  have pown := pre.st.own
                  have hk63 : c + 1 ≤ maxLen := by unfold maxLen; omega
                  have hbase : wq.heap.size + 1 ≤ wc.heap.size := pre.st.blk.lt
                  have hlt3 : wq.heap.size < wc.heap.size := pre.st.blk.lt
                  have hlt4 : wd.heap.size < wc.heap.size := pre.blk.lt
                  go_upto_region 41 with fail
                  apply wp_meet (fun g cap' w4 w' => Appended (wc.alloc (.cells #[.string qn, .pointer (some ⟨qc, 0, none⟩), .int .i64 qa, .int .i64 qb, .int .i64 0] 56)).drew (wq.heap.size + 1) 56 5 v c 1 xs' [.string qn, .pointer (some ⟨qc, 0, none⟩), .int .i64 qa, .int .i64 qb, .int .i64 0] g cap' w4 ∧ w' = w4.setCell ⟨wq.heap.size, 5, none⟩ (.slice (some ⟨g, 0, none⟩) (c + 1) cap'))
                  · go_region_law ((refine step_app elemParts (.tmp 206) (.tmp 208) rfl rfl (wq.heap.size + 1) v c xs' rfl (by first | exact pown | exact pown.alloc _) wc.heap.size 1 1 #[.string qn, .pointer (some ⟨qc, 0, none⟩), .int .i64 qa, .int .i64 qb, .int .i64 0] rfl (by first | exact Blk.new _ _ _ | exact (Blk.new _ _ _).drew) rfl rfl (by decide) ?_ (by omega) hk63 (by first | exact hbase | (simp; omega)); intro g cap' w4 ha; have d5 := (Blk.app (b := wq.heap.size) (by first | exact pre.st.blk.alloc _ | exact (pre.st.blk.alloc _).drew) ha (by first | exact pown | exact pown.alloc _) (Nat.lt_succ_self _)).cell 5; have e5 := (Blk.app (b := wq.heap.size) (by first | exact pre.st.blk.alloc _ | exact (pre.st.blk.alloc _).drew) ha (by first | exact pown | exact pown.alloc _) (Nat.lt_succ_self _)).free 5; simp only [List.getElem?_toArray, List.getElem?_cons_succ, List.getElem?_cons_zero] at d5))
                    all_goals exact ⟨g, cap', w4, ⟨ha, rfl⟩, rfl⟩
                  · rintro g cap' w4 w' ⟨ha, rfl⟩
                    clear p0 p1 p2 p3 p4 q5 g5 hbase hlt3 hlt4 pown hk63
                    go_wp2_with fail
                    go_roundg (q - (k + 1))
                    case measure => omega
                    case rel => exact ⟨k + 1, c + 1, at', _, _, _, _, _, _, _, pre.step ha hat1 hat2, Lib.hid (Htn.out.step (fun κ hκ => pick_ne Hd.out hlt hκ) (by rw [← Hjx.out]; exact Hqn.out)), by omega, by omega, at_step Hat.out hat3, Nat.le_refl _, rfl, by go_num⟩
        · have hwq2 : Below w.heap.size w wq := st.old
          go_wp2_with fail
          go_ret
          exact ⟨wq, _, wq.heap.size, at_, c, v, xs', pn', py', pa', pb', pc', _, rfl, su, by omega, hatb, hwq2, by go_num, rfl, Htn.out.2⟩
#print axioms turnedOf_any
end Nam
end Go.Proofs.YtfilbgmbmlmdbaaGreatDoor
