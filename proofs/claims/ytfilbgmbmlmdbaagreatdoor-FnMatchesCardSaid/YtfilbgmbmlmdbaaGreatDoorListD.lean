/- The contracts of listed and of its index type. -/
import Derived.Test.YtfilbgmbmlmdbaaGreatDoorListC
import Derived.Laws.EntriesVeiled
namespace Go.Proofs.YtfilbgmbmlmdbaaGreatDoor
open Go.RowKit

/-- The list of a type's types: rows that fit; the type has a number. -/
structure Rows (w : World) (v : Value) (n : Nat) (xs : List Value) (D : Nat → Prop) : Prop where
  own : w.ownsRow 0 72 8 v n xs
  ob : ∀ g, v.ownBlock = some g → D g
  fits : ∀ i, i < n → ∃ k nm sz en fl of ix mv q ys, RowFits w D xs n i k nm sz en fl of ix mv q ys

def Listed (W : World) (c : Nat) (e : Ending) (w' : World) : Prop :=
  ∃ (v : Value) (n i : Nat) (xs : List Value) (D : Nat → Prop), e = .returned (.tuple #[v, .int .i64 ((i + 1 : Nat) : Int)]) ∧ Rows w' v n xs D ∧ i < n ∧ n ≤ c ∧ Below W.heap.size W w'

set_option maxRecDepth 100000 in
set_option maxHeartbeats 4000000 in
theorem indexType_any (w : World) : Calls Tryz.prog 30 #[] w fun e w' => e = .returned (.pointer (some ⟨w.heap.size, 0, none⟩)) ∧ w' = w.alloc (.cells #[.int .i64 1, .string ⟨#[117, 52]⟩, .int .i64 4, .bool false, .pointer none, .slice none 0 0] 38) := by
  go_enter Tryz.func30, Tryz.ntmps30
  go_wp2
  go_ret
  exact ⟨rfl, rfl⟩

theorem LSt.start {W : World} {lb mb hb : Nat} (ixv : Value) (hl : Blk W lb #[.slice (some ⟨hb, 0, none⟩) 0 0] 40) (hm : IsMapOf W mb (fun _ => none)) (hh : Blk W hb #[] 72) (h1 : lb ≠ mb) (h2 : lb ≠ hb) (h3 : mb ≠ hb) :
    LSt W lb mb ixv hb (fun _ => False) 0 (.slice (some ⟨hb, 0, none⟩) 0 0) [] (fun _ => none) (fun _ => False) W :=
  ⟨hl, ⟨rfl, .inr ⟨hb, 0, #[], rfl, Nat.zero_le _, hh, Nat.le_refl _, Nat.zero_le _, rfl, rfl⟩⟩, fun g hg => .inl (Option.some.inj hg).symm, hm, fun x u h => by simp at h, fun x y u h => by simp at h, fun i h => by omega, fun i h => h.elim, Old.refl _ _ _ _,
    ⟨hl.lt, hm.lt, hh.lt, h1, h2, h3⟩, fun g h => h.elim⟩

/-- The world in which put is first called. -/
def listedW (w : World) : World :=
  ((((((w.alloc (.cells #[] 72)).alloc (.cells #[.slice (some ⟨w.heap.size, 0, none⟩) 0 0] 40)).alloc (.map #[] 0)).alloc (.cells #[.map (some (w.heap.size + 1 + 1))] 67)).alloc
    (.cells #[.int .i64 1, .string ⟨#[117, 52]⟩, .int .i64 4, .bool false, .pointer none, .slice none 0 0] 38)).alloc (.cells #[.pointer (some ⟨w.heap.size + 1 + 1 + 1 + 1, 0, none⟩)] 24)).alloc
    (.cells #[.func (.func 31) #[] #[.pointer (some ⟨w.heap.size + 1 + 1 + 1, 0, none⟩), .pointer (some ⟨w.heap.size + 1, 0, none⟩), .pointer (some ⟨w.heap.size + 1 + 1 + 1 + 1 + 1 + 1, 0, none⟩), .pointer (some ⟨w.heap.size + 1 + 1 + 1 + 1 + 1, 0, none⟩)]] 68)
theorem listedW_blocks (w : World) : Below w.heap.size w (listedW w) ∧ (listedW w).heap.size = w.heap.size + 1 + 1 + 1 + 1 + 1 + 1 + 1 ∧ Blk (listedW w) w.heap.size #[] 72 ∧ Blk (listedW w) (w.heap.size + 1) #[.slice (some ⟨w.heap.size, 0, none⟩) 0 0] 40 ∧ IsMapOf (listedW w) (w.heap.size + 1 + 1) (fun _ => none) ∧
    Blk (listedW w) (w.heap.size + 1 + 1 + 1) #[.map (some (w.heap.size + 1 + 1))] 67 ∧ Blk (listedW w) (w.heap.size + 1 + 1 + 1 + 1) #[.int .i64 1, .string ⟨#[117, 52]⟩, .int .i64 4, .bool false, .pointer none, .slice none 0 0] 38 ∧
    Blk (listedW w) (w.heap.size + 1 + 1 + 1 + 1 + 1) #[.pointer (some ⟨w.heap.size + 1 + 1 + 1 + 1, 0, none⟩)] 24 ∧
    Blk (listedW w) (w.heap.size + 1 + 1 + 1 + 1 + 1 + 1) #[.func (.func 31) #[] #[.pointer (some ⟨w.heap.size + 1 + 1 + 1, 0, none⟩), .pointer (some ⟨w.heap.size + 1, 0, none⟩), .pointer (some ⟨w.heap.size + 1 + 1 + 1 + 1 + 1 + 1, 0, none⟩), .pointer (some ⟨w.heap.size + 1 + 1 + 1 + 1 + 1, 0, none⟩)]] 68 := by
  have hm : IsMapOf (((w.alloc (.cells #[] 72)).alloc (.cells #[.slice (some ⟨w.heap.size, 0, none⟩) 0 0] 40)).alloc (.map #[] 0)) (w.heap.size + 1 + 1) (fun _ => none) := by
    have := IsMapOf.made ((w.alloc (.cells #[] 72)).alloc (.cells #[.slice (some ⟨w.heap.size, 0, none⟩) 0 0] 40))
    simpa using this
  refine ⟨?_, by simp [listedW], ?_, ?_, ?_, ?_, ?_, ?_, ?_⟩
  · exact (((((((Below.refl _ _).alloc (Nat.le_refl _) _).alloc (by simp) _).alloc (by simp; omega) _).alloc (by simp; omega) _).alloc (by simp; omega) _).alloc (by simp; omega) _).alloc (by simp; omega) _
  · exact ((((((Blk.new _ _ _).alloc _).alloc _).alloc _).alloc _).alloc _).alloc _
  · exact (((((Blk.newAt _ _ _ (by simp)).alloc _).alloc _).alloc _).alloc _).alloc _
  · exact (((hm.alloc _).alloc _).alloc _).alloc _
  · exact (((Blk.newAt _ _ _ (by simp)).alloc _).alloc _).alloc _
  · exact ((Blk.newAt _ _ _ (by simp)).alloc _).alloc _
  · exact (Blk.newAt _ _ _ (by simp)).alloc _
  · exact Blk.newAt _ _ _ (by simp)

set_option maxRecDepth 100000 in
set_option maxHeartbeats 4000000 in
theorem listed_of (put_any : ∀ t, PutC t) (b : Nat) (t : Ty) (w : World) (r : Rep w Nowhere b t) (hg : Good t) (hc : t.cnt ≤ 1000000) :
    Calls Tryz.prog 14 #[.pointer (some ⟨b, 0, none⟩)] w (Listed w t.cnt) := by
  have hmm := @run_makeMap Tryz.prog
  go_enter Tryz.func14, Tryz.ntmps14
  go_wp2_with fail
  refine (indexType_any _).mono ?_
  rintro e w1 ⟨rfl, rfl⟩
  go_wp2_with fail
  change Calls _ _ _ (listedW w) _
  obtain ⟨hbw, hsz, b0, b1, b2, b3, b4, b5, b6⟩ := listedW_blocks w
  have hex : ∀ g, ¬ Ex (w.heap.size + 1) (w.heap.size + 1 + 1) w.heap.size g ↔ g ≠ w.heap.size + 1 ∧ g ≠ w.heap.size + 1 + 1 ∧ g ≠ w.heap.size := fun g => by unfold Ex; omega
  have henv : Env (listedW w) (w.heap.size + 1 + 1 + 1) (w.heap.size + 1) (w.heap.size + 1 + 1 + 1 + 1 + 1 + 1) (w.heap.size + 1 + 1 + 1 + 1 + 1) (w.heap.size + 1 + 1) (w.heap.size + 1 + 1 + 1 + 1) w.heap.size (listedW w) :=
    ⟨b3, b6, b5, ⟨by omega, by omega, by omega⟩, (hex _).2 (by omega), (hex _).2 (by omega), (hex _).2 (by omega)⟩
  have hr : Rep (listedW w) (Ex (w.heap.size + 1) (w.heap.size + 1 + 1) w.heap.size) b t := r.keep (fun k hk _ => hbw.block k hk) (fun k hk hx => by unfold Ex at hx; omega)
  refine (put_any t (listedW w) _ _ _ _ _ _ _ b (fun _ => False) 0 _ [] (fun _ => none) (fun _ => False) (listedW w) henv (LSt.start _ b1 b2 b0 (by omega) (by omega) (by omega)) hr hg (.int b4 ((hex _).2 (by omega))) (by omega)).mono ?_
  rintro e w' ⟨i, n', v', xs', m', rfl, st, hi, -, hn', -, -, -, -, -⟩
  have l0 := st.lst.cell 0
  simp only [List.getElem?_toArray, List.getElem?_cons_zero] at l0
  go_wp2_with fail
  go_ret2
  refine ⟨v', n', i, xs', Wr (w.heap.size + 1) (w.heap.size + 1 + 1) v', rfl, ⟨st.own, fun g hg => .inr (.inr hg), fun i hi => st.fits i hi⟩, hi, by omega, ?_⟩
  have ho := st.old
  exact ⟨ho.os.trans hbw.os, ho.tape.trans hbw.tape, ho.output.trans hbw.output, Nat.le_trans hbw.size ho.size, fun k hk => (ho.block k (by omega) ((hex _).2 (by omega))).trans (hbw.block k hk)⟩
#print axioms listed_of
end Go.Proofs.YtfilbgmbmlmdbaaGreatDoor
