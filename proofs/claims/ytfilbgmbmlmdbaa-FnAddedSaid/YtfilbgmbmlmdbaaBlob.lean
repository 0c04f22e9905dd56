/- The contract of blobOf: the list of a struct's types and of those of the same one turned. -/
import Derived.Test.YtfilbgmbmlmdbaaListD
import Derived.Test.YtfilbgmbmlmdbaaTurnC
import Derived.Test.YtfilbgmbmlmdbaaTurnD
namespace Go.Proofs.Ytfilbgmbmlmdbaa
open Go.RowKit

theorem StrT.mono_mx {F : Ty → Prop} {M mx mx' : Nat} {nm : ByteArray} {t : Ty} (h : StrT F M mx nm t) (hm : mx ≤ mx') : StrT F M mx' nm t := by
  obtain ⟨sz, n, pn, py, pa, pb, rfl, hn, hs, hp⟩ := h
  exact ⟨sz, n, pn, py, pa, pb, rfl, hn, by omega, fun i hi => ⟨(hp i hi).1, by have := (hp i hi).2; omega⟩⟩
theorem U32s.prefix8 {w : World} {a : Option Addr} {n cap : Nat} (h : U32s w (.slice a n cap) n) (k c : Nat) (hk : k ≤ n) : U32s w (.slice a k c) k := by
  obtain ⟨a', cap', e, h⟩ := h
  simp only [Value.slice.injEq, true_and] at e
  obtain ⟨rfl, -⟩ := e
  refine ⟨a, c, rfl, ?_⟩
  rcases h with h | ⟨b, off, rfl, hb, hc⟩
  · exact .inl (by omega)
  · exact .inr ⟨b, off, rfl, hb, fun i hi => hc i (by omega)⟩

/-- The struct of both. -/
def rootT (sz : Nat) (ta tt : Ty) : Ty := .comp false ⟨#[119, 104, 111, 108, 101]⟩ (sz + 8) 2 (fun i => if i = 0 then ⟨#[102, 105, 114, 115, 116]⟩ else ⟨#[115, 101, 99, 111, 110, 100]⟩) (fun i => if i = 0 then ta else .ptr tt) (fun i => if i = 0 then 0 else 8 * sz) (fun _ => 0)
def rootW (w : World) (ab tb sz : Nat) : World :=
  ((w.alloc (.cells #[.int .i64 2, .string ⟨#[]⟩, .int .i64 0, .bool false, .pointer (some ⟨tb, 0, none⟩), .slice none 0 0] 42)).alloc
    (.cells #[.string ⟨#[102, 105, 114, 115, 116]⟩, .pointer (some ⟨ab, 0, none⟩), .int .i64 0, .int .i64 0, .int .i64 0, .string ⟨#[115, 101, 99, 111, 110, 100]⟩, .pointer (some ⟨w.heap.size, 0, none⟩), .int .i64 (8 * (sz : Int)), .int .i64 0, .int .i64 0] 44)).alloc
    (.cells #[.int .i64 4, .string ⟨#[119, 104, 111, 108, 101]⟩, .int .i64 ((sz : Int) + 8), .bool false, .pointer none, .slice (some ⟨w.heap.size + 1, 0, none⟩) 2 2] 42)
theorem rootW_rep {w : World} {ab tb sz : Nat} {ta tt : Ty} (ra : Rep w Nowhere ab ta) (rt : Rep w Nowhere tb tt) : Below w.heap.size w (rootW w ab tb sz) ∧ Rep (rootW w ab tb sz) Nowhere (w.heap.size + 1 + 1) (rootT sz ta tt) := by
  have hb : Below w.heap.size w (rootW w ab tb sz) := (((Below.refl _ _).alloc (Nat.le_refl _) _).alloc (by simp) _).alloc (by simp; omega) _
  refine ⟨hb, ?_⟩
  have b0 : Blk (rootW w ab tb sz) w.heap.size _ _ := ((Blk.new w _ _).alloc _).alloc _
  have b1 : Blk (rootW w ab tb sz) (w.heap.size + 1) _ _ := (Blk.newAt _ _ _ (by simp)).alloc _
  have b2 : Blk (rootW w ab tb sz) (w.heap.size + 1 + 1) _ _ := Blk.newAt _ _ _ (by simp)
  refine .comp (un := false) (v := .slice (some ⟨w.heap.size + 1, 0, none⟩) 2 2) (xs := [.string ⟨#[102, 105, 114, 115, 116]⟩, .pointer (some ⟨ab, 0, none⟩), .int .i64 0, .int .i64 0, .int .i64 0, .string ⟨#[115, 101, 99, 111, 110, 100]⟩, .pointer (some ⟨w.heap.size, 0, none⟩), .int .i64 (8 * (sz : Int)), .int .i64 0, .int .i64 0])
    (pc := fun i => if i = 0 then ab else w.heap.size) b2 (fun h => h) ⟨rfl, .inr ⟨w.heap.size + 1, 2, _, rfl, Nat.zero_le _, b1, Nat.le_refl _, by decide, rfl, rfl⟩⟩ (fun _ _ h => h) (fun i hi => ?_) (fun i hi => ?_)
  · rcases (by omega : i = 0 ∨ i = 1) with rfl | rfl
    · exact ⟨rfl, rfl, rfl, rfl, rfl⟩
    · exact ⟨rfl, rfl, rfl, rfl, rfl⟩
  · rcases (by omega : i = 0 ∨ i = 1) with rfl | rfl
    · exact ra.old hb
    · exact .ptr b0 (fun h => h) (rt.old hb)
theorem rootT_good {sz : Nat} {ta tt : Ty} (hs : sz ≤ 100000) (ha : Good ta) (ht : Good tt) : Good (rootT sz ta tt) ∧ (rootT sz ta tt).cnt = ta.cnt + (tt.cnt + 1) + 1 := by
  refine ⟨.comp (by omega) (by omega) (fun i hi => ?_) (fun i hi => ?_), by simp [rootT, Ty.cnt, sumTo]⟩
  · rcases (by omega : i = 0 ∨ i = 1) with rfl | rfl
    · exact ⟨by show 0 < 4294967296; omega, by decide⟩
    · exact ⟨by show 8 * sz < 4294967296; omega, by decide⟩
  · rcases (by omega : i = 0 ∨ i = 1) with rfl | rfl
    · exact ha
    · exact .ptr ht

set_option maxRecDepth 100000 in
set_option maxHeartbeats 4000000 in
theorem blobOf_of (put_any : ∀ t, PutC t) (hS0 : StructC 0 Leaf 48) (hS1 : StructC 1 FT 200) (ln mn lcap : Nat) (la : Option Addr) (mv : Value) (w : World) (hl : U32s w (.slice la ln lcap) ln) (hm : U32s w mv mn) (hln : ln ≤ 100) (hmn : mn ≤ 100) (hlc : ln ≤ lcap) :
    Calls Try.prog 5 #[.slice la ln lcap, mv] w fun e w' => ∃ v n xs D, e = .returned v ∧ Rows w' v n xs D ∧ 1 ≤ n ∧ n ≤ 100000 ∧ Below w.heap.size w w' := by
  have Hm := Lib.hid hm
  have Hl := Lib.hid hl
  clear hl
  obtain ⟨ma, mcap, rfl, -⟩ := hm
  obtain ⟨k, hmin, hk8, hkn⟩ : ∃ k : Nat, (if (8 : Int) < (ln : Int) then (8 : Int) else ln) = (k : Int) ∧ k ≤ 8 ∧ k ≤ ln := by
    by_cases h : (8 : Int) < (ln : Int)
    · exact ⟨8, by rw [if_pos h]; rfl, by omega, by omega⟩
    · exact ⟨ln, by rw [if_neg h], by omega, Nat.le_refl _⟩
  have hb1 : (0 : Int) ≤ k := by omega
  have hb2 : (k : Int) ≤ lcap := by omega
  go_enter Try.func5, Try.ntmps5
  go_wp2_with fail
  refine (hS1 ⟨#[115]⟩ ⟨#[97, 98, 99, 100, 101, 102, 103, 104, 105, 106]⟩ (by decide) k hk8 _ w (Hl.out.prefix8 k lcap hkn)).mono ?_
  rintro e w1 ⟨ab, ta, rfl, ra, hta, hb1'⟩
  go_wp2_with fail
  refine (turnedOf_any ab ⟨#[115]⟩ _ ta mn (.slice ma mn mcap) w1 (ra.weaken fun _ _ h => h.elim) hta (typeC_one hS0) hmn (Hm.out.old hb1')).mono ?_
  intro e w2 htu
  obtain ⟨tb, rfl, htb1, htb2, hb2', fz, ⟨u1, hu1⟩, -, hren⟩ := htu.rename
  obtain ⟨tt, rt, hgt, hct⟩ := hren ⟨#[116]⟩
  have hga := hta.good (fun t h => FT.good h) (by omega) (by omega)
  obtain ⟨sz, na, pn, py, pa, pb, rfl, hna, hsz, -⟩ := hta
  obtain ⟨_, _, _, hblka, _, _, _⟩ := ra.comp_inv
  have hal : ab < w1.heap.size := hblka.lt
  have hra2 : Rep (w2.setCell ⟨tb, 1, none⟩ (.string ⟨#[116]⟩)) Nowhere ab (.comp false ⟨#[115]⟩ sz na pn py pa pb) :=
    ra.keep (fun b hb _ => by rw [Below.heap_setCell _ _ _ _ (by show b ≠ tb; omega)]; exact hb2'.block b hb) (fun _ _ h => h.elim)
  have hblk3 : Blk (w2.setCell ⟨tb, 1, none⟩ (.string ⟨#[116]⟩)) ab _ _ := (hblka.old hb2').other (by show ab ≠ tb; omega) _
  have a2 := hblk3.cell 2
  simp only [List.getElem?_toArray, List.getElem?_cons_succ, List.getElem?_cons_zero] at a2
  have hW3 : Below w.heap.size w (w2.setCell ⟨tb, 1, none⟩ (.string ⟨#[116]⟩)) := (hb1'.trans (hb2'.mono hb1'.size)).setCell (by have := hb1'.size; show w.heap.size ≤ tb; omega) _
  have hal3 := hblk3.lt
  go_upto_region 4 with fail
  generalize w2.setCell ⟨tb, 1, none⟩ (.string ⟨#[116]⟩) = w3 at rt hra2 hblk3 a2 hW3 hal3 ⊢
  clear hu1 fz hren htu
  have hal4 : ab < w3.heap.size + 1 := by omega
  have hal5 : ab < w3.heap.size + 1 + 1 := by omega
  go_upto_region 6 with fail
  have hrw := rootW_rep (sz := sz) hra2 rt
  have hrg := rootT_good (sz := sz) (by omega) hga.1 hgt
  generalize Ty.comp false ⟨#[115]⟩ sz na pn py pa pb = ta at hga hrw hrg
  change Code.wp _ _ _ _ (rootW w3 ab tb sz)
  go_wp2_with fail
  refine (listed_of put_any _ _ (rootW w3 ab tb sz) hrw.2 hrg.1 (by omega)).mono ?_
  rintro e w5 ⟨v, n, i, xs, D, rfl, rows, hi, hn, hb5⟩
  go_wp2_with fail
  go_ret
  exact ⟨v, n, xs, D, rfl, rows, by omega, by omega, (hW3.trans (hrw.1.mono hW3.size)).trans (hb5.mono (hW3.trans (hrw.1.mono hW3.size)).size)⟩
#print axioms blobOf_of
end Go.Proofs.Ytfilbgmbmlmdbaa
