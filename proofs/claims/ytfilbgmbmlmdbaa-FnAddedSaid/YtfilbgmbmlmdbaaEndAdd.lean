/- The law FnAdded holds for every input: types that are added one after the other are numbered on, and one that is added again has the number that it had. No condition. -/
import Derived.Test.YtfilbgmbmlmdbaaAddE
import Derived.Test.YtfilbgmbmlmdbaaRowAdd
namespace Go.Proofs.Ytfilbgmbmlmdbaa
open Go.RowKit

theorem wf_u8n {z : Int} (h : (Lit.int .u8 z).wf = true) : 0 ≤ z ∧ z < 256 := by
  have h1 : IntKind.u8.min = 0 := rfl
  have h2 : IntKind.u8.max = 255 := rfl
  simp only [Lit.wf, Bool.and_eq_true, decide_eq_true_eq] at h
  omega
theorem wf_u32n {z : Int} (h : (Lit.int .u32 z).wf = true) : 0 ≤ z ∧ z < 4294967296 := by
  have h1 : IntKind.u32.min = 0 := rfl
  have h2 : IntKind.u32.max = 4294967295 := rfl
  simp only [Lit.wf, Bool.and_eq_true, decide_eq_true_eq] at h
  omega
theorem IsRow.nums {w : World} {a : Option Addr} {len cap : Nat} {zs : List Int} (h : IsRow .u32 w a len cap zs) : U32s w (.slice a len cap) len := by
  refine ⟨a, cap, rfl, h.cells.imp id ?_⟩
  rintro ⟨b, off, rfl, hb, hc⟩
  refine ⟨b, off, rfl, hb, fun i hi => ?_⟩
  obtain ⟨z, h1, h2⟩ := hc i hi
  exact ⟨z, h1, wf_u32n h2⟩
theorem fnAdded_walk : FnAddedWalk := by
  intro a0 len0 cap0 z0 a1 len1 cap1 z1 a2 len2 cap2 z2 w w0 w1 w2
  obtain ⟨zo, hzo⟩ : ∃ zo : Nat → Nat, len2 = 0 ∨ ∃ b off, a2 = some ⟨b, off, none⟩ ∧ b < w.heap.size ∧ ∀ j, j < len2 → w.cell? ⟨b, off + j, none⟩ = some (.int .u8 (zo j : Int)) ∧ zo j < 256 := by
    rcases w2.cells with h | ⟨b, off, rfl, hb, hc⟩
    · exact ⟨fun _ => 0, .inl h⟩
    · have hc2 : ∀ j, ∃ x : Nat, j < len2 → w.cell? ⟨b, off + j, none⟩ = some (.int .u8 (x : Int)) ∧ x < 256 := fun j => by
        by_cases hj : j < len2
        · obtain ⟨z, h1, h2⟩ := hc j hj
          have h3 := wf_u8n h2
          exact ⟨z.toNat, fun _ => ⟨by rw [h1, Int.toNat_of_nonneg h3.1], by omega⟩⟩
        · exact ⟨0, fun h => absurd h hj⟩
      obtain ⟨zo, hzo⟩ := Classical.axiomOfChoice hc2
      exact ⟨zo, .inr ⟨b, off, rfl, hb, hzo⟩⟩
  exact FnAdded_any w len0 len1 cap0 len2 cap2 a0 a2 (.slice a1 len1 cap1) zo w0.nums w1.nums w0.le w2.le hzo

/-- The statement. -/
theorem fnAdded_holds : Rows.FnAddedSaid := fnAdded_over fnAdded_walk
#print axioms fnAdded_holds
end Go.Proofs.Ytfilbgmbmlmdbaa
