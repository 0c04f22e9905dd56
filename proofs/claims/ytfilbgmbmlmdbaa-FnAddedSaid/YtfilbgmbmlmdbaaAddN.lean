/- A new builder. Nothing is claimed here. -/
import Derived.Test.YtfilbgmbmlmdbaaAddA
import Derived.Test.YtfilbgmbmlmdbaaTurnB
import Derived.Deep.DeepCutAuto
import Derived.Deep.CutBlock
namespace Go.Proofs.Ytfilbgmbmlmdbaa
open Go.RowKit Go.MapKept

theorem typeElem : ElemOk Try.prog 49 48 1 16 := .of (z := .nilIface) Try.underlying49 (by kernel_rfl) (by rfl) (by decide)
theorem intElem : ElemOk Try.prog 25 3 1 8 := .of (z := .int .i64 0) Try.underlying25 (by kernel_rfl) (by rfl) (by decide)

theorem IsMapOf.madeAt (w : World) {b : Nat} (h : b = w.heap.size) : IsMapOf (w.alloc (.map #[] 0)) b (fun _ => none) := h ▸ IsMapOf.made w
theorem mkTypes (W : World) : (Instr.makeSlice 49 (.int .i64 0) (.int .i64 0)).run Try.prog W = .ok (.slice (some ⟨W.heap.size, 0, none⟩) 0 0) (W.alloc (.cells #[] 48)) := by
  obtain ⟨i, z, ht, hi, hz, hsz, hby, _, _⟩ := typeElem
  have h := run_makeSlice (P := Try.prog) (w := W) _ _ i z ht hi hz .i64 .i64 0 0 (by omega) (by omega) (by simp) (by simp) (by omega)
  simpa [madeCells, Array.range_zero'] using h
theorem mkIds (W : World) : (Instr.makeMap 108 (some (.int .i64 0))).run Try.prog W = .ok (.map (some W.heap.size)) (W.alloc (.map #[] 0)) := by
  simp [Instr.makeMap, run_underlying Try.underlying108, asInt, asIntOf, Result.andThen]

set_option maxRecDepth 100000 in
set_option maxHeartbeats 4000000 in
theorem newBuilder_any (w : World) : Calls Try.prog 21 #[.slice none 0 0, .pointer none] w fun e w' => ∃ bb mb tb, e = .returned (.tuple #[.pointer (some ⟨bb, 0, none⟩), .nilIface]) ∧
    Blk w' bb #[.slice (some ⟨tb, 0, none⟩) 0 0, .map (some mb), .pointer none] 111 ∧ Blk w' tb #[] 48 ∧ IsMapOf w' mb (fun _ => none) ∧ w.heap.size ≤ bb ∧ w.heap.size ≤ mb ∧ w.heap.size ≤ tb ∧ bb ≠ tb ∧ Below w.heap.size w w' := by
  have h1 := mkTypes
  have h2 := mkIds
  go_enter Try.func21, Try.ntmps21
  go_upto_region 1 with fail
  go_cut [6] (fun s6 wx => ∃ bb mb tb, s6 = .pointer (some ⟨bb, 0, none⟩) ∧ Blk wx bb #[.slice (some ⟨tb, 0, none⟩) 0 0, .map (some mb), .pointer none] 111 ∧ Blk wx tb #[] 48 ∧ IsMapOf wx mb (fun _ => none) ∧ w.heap.size ≤ bb ∧ w.heap.size ≤ mb ∧ w.heap.size ≤ tb ∧ bb ≠ tb ∧ Below w.heap.size w wx)
  case first =>
    go_region
    all_goals go_wp2_with fail
    all_goals go_meet
    · exact ⟨w.heap.size + 1 + 1, w.heap.size + 1, w.heap.size, rfl, (Blk.newAt _ _ _ (by simp)).drew, ((Blk.newAt _ _ _ (by simp)).alloc _).alloc _ |>.drew, (IsMapOf.madeAt _ (by simp)).alloc _, by omega, by omega, by omega, by omega, (((((Below.refl _ _).alloc (Nat.le_refl _) _).alloc (by simp) _).alloc (by simp; omega) _).drew)⟩
    · exact ⟨w.heap.size + 1 + 1, w.heap.size, w.heap.size + 1, rfl, (Blk.newAt _ _ _ (by simp)).drew, ((Blk.newAt _ _ _ (by simp)).alloc _).drew, ((IsMapOf.madeAt _ (by simp)).alloc _).alloc _, by omega, by omega, by omega, by omega, (((((Below.refl _ _).alloc (Nat.le_refl _) _).alloc (by simp) _).alloc (by simp; omega) _).drew)⟩
  case rest =>
    obtain ⟨bb, mb, tb, rfl, h3, h4, h5, h6, h7, h8, h9, h10⟩ := hcut
    go_wp2_with fail
    go_loopg [21] 0 (fun gk s21 wr => s21 = .int .i64 0 ∧ wr = wc)
    case atStart => exact ⟨rfl, rfl⟩
    case round =>
      obtain ⟨rfl, rfl⟩ := hrel
      go_wp2_with fail
      go_ret2
      exact ⟨bb, mb, tb, rfl, h3, h4, h5, h6, h7, h8, h9, h10⟩
#print axioms newBuilder_any
end Go.Proofs.Ytfilbgmbmlmdbaa
