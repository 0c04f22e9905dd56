/- A relocation's fixups: the package's own closures. Nothing is claimed here. -/
import Derived.Test.YtfilbgmbmlmdbaaGreatDoorRelG
import Derived.Test.YtfilbgmbmlmdbaaGreatDoorRelE
import Derived.Laws.ResultCell
namespace Go.Proofs.YtfilbgmbmlmdbaaGreatDoor
open Go.RowKit Go.MapKept

/-- A fixup, as it is returned. -/
abbrev fixV (k a b : Int) (p s : Bool) : Value := .agg #[.int .u32 k, .int .u64 a, .int .u64 b, .bool p, .bool s]
set_option maxRecDepth 100000 in
set_option maxHeartbeats 4000000 in
theorem fixup_any (w : World) (rb cb : Nat) (k a b : Int) (hr : w.cell? ⟨rb, 0, none⟩ = some (.pointer (some ⟨cb, 0, none⟩))) (hk : w.cell? ⟨cb, 2, none⟩ = some (.int .u32 k)) :
    Calls Tryz.prog 53 #[.int .u64 a, .int .u64 b, .pointer (some ⟨rb, 0, none⟩)] w fun e w' => e = .returned (.tuple #[fixV k a b false false, .nilIface]) ∧ Below w.heap.size w w' := by
  have l1 := World.block_lt_of_cell? w _ hr
  have l2 := World.block_lt_of_cell? w _ hk
  simp only at l1 l2
  go_enter Tryz.func53, Tryz.ntmps53
  go_wp2_with fail
  refine bodyPost_ret (v := .tuple #[fixV k a b false false, .nilIface]) ?_ rfl ⟨rfl, (Below.refl _ _).alloc (Nat.le_refl _) _⟩
  rw [results_cell_tmp rfl]
  go_simp
/-- Whether a relocation of a kind asks for existence. -/
def exB (k : Int) : Bool := k == 10 || k == 8 || k == 2 || k == 12
set_option maxRecDepth 100000 in
set_option maxHeartbeats 4000000 in
theorem exists_any (w : World) (k : Int) (h0 : 0 ≤ k) (h1 : k ≤ 12) : Calls Tryz.prog 56 #[.int .u32 k] w fun e w' => e = .returned (.bool (exB k)) ∧ w' = w := by
  rcases (by omega : k = 0 ∨ k = 1 ∨ k = 2 ∨ k = 3 ∨ k = 4 ∨ k = 5 ∨ k = 6 ∨ k = 7 ∨ k = 8 ∨ k = 9 ∨ k = 10 ∨ k = 11 ∨ k = 12) with rfl | rfl | rfl | rfl | rfl | rfl | rfl | rfl | rfl | rfl | rfl | rfl | rfl
  all_goals
    go_enter Tryz.func56, Tryz.ntmps56
    go_wp2_with fail
    go_ret
    exact ⟨rfl, rfl⟩
/-- What poison gives. -/
def poiV (k : Int) : Value := if exB k then fixV k 1 0 false false else fixV k 0 0 true false
set_option maxRecDepth 100000 in
set_option maxHeartbeats 4000000 in
theorem poison_any (w : World) (rb fb cb : Nat) (k : Int) (h0 : 0 ≤ k) (h1 : k ≤ 12) (hr : w.cell? ⟨rb, 0, none⟩ = some (.pointer (some ⟨cb, 0, none⟩))) (hk : w.cell? ⟨cb, 2, none⟩ = some (.int .u32 k))
    (hf : w.cell? ⟨fb, 0, none⟩ = some (.func (.func 53) #[] #[.pointer (some ⟨rb, 0, none⟩)])) :
    Calls Tryz.prog 55 #[.pointer (some ⟨rb, 0, none⟩), .pointer (some ⟨fb, 0, none⟩)] w fun e w' => e = .returned (.tuple #[poiV k, .nilIface]) ∧ Below w.heap.size w w' := by
  have l1 := World.block_lt_of_cell? w _ hr
  have l2 := World.block_lt_of_cell? w _ hk
  have l3 := World.block_lt_of_cell? w _ hf
  simp only at l1 l2 l3
  unfold poiV
  have hal := (Below.refl w.heap.size w).alloc (Nat.le_refl _) (.cells #[.int .u32 0, .int .u64 0, .int .u64 0, .bool false, .bool false] 106)
  have hr2 := (hal.cell (p := ⟨rb, 0, none⟩) l1).trans hr
  have hk2 := (hal.cell (p := ⟨cb, 2, none⟩) l2).trans hk
  cases hb : exB k with
  | true =>
    rw [if_pos rfl]
    go_enter Tryz.func55, Tryz.ntmps55
    go_wp2_with fail
    refine (exists_any _ k h0 h1).mono ?_
    rintro e w9 ⟨rfl, rfl⟩
    rw [hb]
    go_wp2_with fail
    refine (fixup_any _ rb cb k 1 0 hr2 hk2).mono ?_
    rintro e w9 ⟨rfl, hb9⟩
    have hbk9 := (Blk.new w #[.int .u32 0, .int .u64 0, .int .u64 0, .bool false, .bool false] 106).old hb9
    obtain ⟨c0, c1, c2, c3, c4⟩ := hbk9.five
    have g0 := hbk9.free 0
    have g1 := hbk9.free 1
    have g2 := hbk9.free 2
    have g3 := hbk9.free 3
    have g4 := hbk9.free 4
    go_wp2_with fail
    refine bodyPost_ret (v := .tuple #[fixV k 1 0 false false, .nilIface]) ?_ rfl ⟨rfl, ?_⟩
    · rw [results_cell_tmp rfl]
      go_simp
    · exact (((((hal.trans (hb9.mono (by simp))).setCell (Nat.le_refl _) _).setCell (Nat.le_refl _) _).setCell (Nat.le_refl _) _).setCell (Nat.le_refl _) _).setCell (Nat.le_refl _) _
  | false =>
    rw [if_neg (by simp)]
    go_enter Tryz.func55, Tryz.ntmps55
    go_wp2_with fail
    refine (exists_any _ k h0 h1).mono ?_
    rintro e w9 ⟨rfl, rfl⟩
    rw [hb]
    go_wp2_with fail
    refine bodyPost_ret (v := .tuple #[fixV k 0 0 true false, .nilIface]) ?_ rfl ⟨rfl, (Below.refl _ _).alloc (Nat.le_refl _) _⟩
    rw [results_cell_tmp rfl]
    go_simp
#print axioms poison_any
end Go.Proofs.YtfilbgmbmlmdbaaGreatDoor
