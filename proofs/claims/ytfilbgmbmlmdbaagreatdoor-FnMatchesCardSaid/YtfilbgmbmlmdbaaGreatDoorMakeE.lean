/- Types of fields by numbers at both depths: the contract of typeOf whole. -/
import Derived.Test.YtfilbgmbmlmdbaaGreatDoorMakeDa
namespace Go.Proofs.YtfilbgmbmlmdbaaGreatDoor
open Go.RowKit

theorem IntT.flat {t : Ty} (h : IntT t) : 1 ≤ t.bytes ∧ t.bytes ≤ 8 ∧ ∀ n u, t.behind ≠ .arr n u := by
  obtain ⟨sz, sg, nm, rfl, hs, _⟩ := h
  exact ⟨by show 1 ≤ sz; omega, by show sz ≤ 8; omega, fun n u h => by cases h⟩
theorem Leaf.facts {t : Ty} (h : Leaf t) : 1 ≤ t.bytes ∧ t.bytes ≤ 48 ∧ Flat t := by
  cases h with
  | int h => have := h.flat; exact ⟨by omega, by omega, fun n u h => absurd h (this.2.2 n u)⟩
  | ptr h => exact ⟨by show 1 ≤ 8; omega, by show 8 ≤ 48; omega, fun n u h => by cases h⟩
  | enm h => obtain ⟨nm, sg, n, vn, vv, rfl, _⟩ := h; exact ⟨by show 1 ≤ 4; omega, by show 4 ≤ 48; omega, fun n u h => by cases h⟩
  | @arr n t h h1 h6 =>
    have hf := h.flat
    have h2 : n * t.bytes ≤ 6 * 8 := Nat.mul_le_mul h6 hf.2.1
    have h3 : 1 * 1 ≤ n * t.bytes := Nat.mul_le_mul h1 hf.1
    exact ⟨by show 1 ≤ n * t.bytes; omega, by show n * t.bytes ≤ 48; omega, fun m u e => by cases e; exact ⟨hf.2.2, by omega⟩⟩
  | named h hn => have := h.flat; exact ⟨this.1, by have := this.2.1; show _ ≤ 48; simp only [Ty.bytes]; omega, fun n u e => absurd e (this.2.2 n u)⟩
  | cst h => have := h.flat; exact ⟨this.1, by have := this.2.1; show _ ≤ 48; simp only [Ty.bytes]; omega, fun n u e => absurd e (this.2.2 n u)⟩
theorem Leaf.int_size {sz : Nat} {sg : Bool} {im : ByteArray} (h : Leaf (.int sz sg im)) : sz = 1 ∨ sz = 2 ∨ sz = 4 ∨ sz = 8 := by
  cases h with
  | int h => obtain ⟨_, _, _, e, hs, _⟩ := h; cases e; exact hs
  | enm h => obtain ⟨_, _, _, _, _, e, _⟩ := h; cases e
theorem Leaf.arr_elem {m : Nat} {u : Ty} (h : Leaf (.arr m u)) : IntT u := by
  cases h with
  | int h => obtain ⟨_, _, _, e, _⟩ := h; cases e
  | enm h => obtain ⟨_, _, _, _, _, e, _⟩ := h; cases e
  | arr h _ _ => exact h

/-- Fields' types: no structs, or the small struct. -/
def FT (t : Ty) : Prop := Leaf t ∨ StrT Leaf 48 168 ⟨#[105, 110]⟩ t
theorem StrT.facts {F : Ty → Prop} {M mx : Nat} {nm : ByteArray} {t : Ty} (h : StrT F M mx nm t) : t.bytes ≤ mx ∧ Flat t ∧ (∀ sz sg im, t ≠ .int sz sg im) ∧ ∀ m u, t ≠ .arr m u := by
  obtain ⟨sz, n, pn, py, pa, pb, rfl, _, hs, _⟩ := h
  exact ⟨hs, (fun n u e => by cases e), (fun _ _ _ e => by cases e), (fun _ _ e => by cases e)⟩

theorem u32s_two (w : World) (B : Nat) (x y : Int) (hx : 0 ≤ x ∧ x < 4294967296) (hy : 0 ≤ y ∧ y < 4294967296) (hb : Blk w B #[.int .u32 x, .int .u32 y] 49) : U32s w (.slice (some ⟨B, 0, none⟩) 2 2) 2 := by
  refine ⟨_, 2, rfl, .inr ⟨B, 0, rfl, hb.lt, fun i hi => ?_⟩⟩
  rcases (by omega : i = 0 ∨ i = 1) with rfl | rfl
  · exact ⟨x, hb.cell 0, hx⟩
  · exact ⟨y, hb.cell 1, hy⟩

theorem typeC_zero : TypeC 0 Leaf := by
  intro z w h0 h1
  by_cases hz : z % 9 = 8
  · go_enter Tryz.func17, Tryz.ntmps17
    go_wp2_with fail
    refine (intOf_int (z / 16) _ (by omega) (by omega)).mono ?_
    rintro e w1 ⟨b, t, rfl, r, ht, hb⟩
    go_wp2_with fail
    go_ret
    exact ⟨_, _, rfl, r, .int ht, hb⟩
  · exact typeOf_leaf 0 Leaf (fun _ h => h) z w h0 h1 hz

/-- What structOf makes of numbers, at a depth. -/
def StructC (d : Int) (F : Ty → Prop) (M : Nat) : Prop := ∀ (nm ns : ByteArray), ns.size ≤ 10 → ∀ n, n ≤ 8 → ∀ (sv : Value) (w : World), U32s w sv n →
  Calls Tryz.prog 7 #[sv, .string nm, .string ns, .int .i64 d] w (Made w (StrT F M (n * (M + 32) + 8) nm))

theorem typeC_one (hS : StructC 0 Leaf 48) : TypeC 1 FT := by
  intro z w h0 h1
  by_cases hz : z % 9 = 8
  · go_enter Tryz.func17, Tryz.ntmps17
    go_wp2_with fail
    refine (hS ⟨#[105, 110]⟩ ⟨#[120, 121, 122]⟩ (by decide) 2 (by omega) _ _ (u32s_two _ w.heap.size _ _ (by omega) (by omega) (Blk.new _ _ _))).mono ?_
    rintro e w1 ⟨b, t, rfl, r, ht, hb⟩
    go_wp2_with fail
    go_ret
    exact ⟨_, _, rfl, r.weaken (fun b _ h => by simp; omega), .inr ht, ((Below.refl _ _).alloc (Nat.le_refl _) _).trans (hb.mono (by simp))⟩
  · exact typeOf_leaf 1 FT (fun _ h => .inl h) z w h0 h1 hz

#print axioms typeC_one
end Go.Proofs.YtfilbgmbmlmdbaaGreatDoor
