/- The law FnAs holds for every input: what a type is behind its names and what qualifies is told where it is of the kind that is asked for. No condition. -/
import Derived.Test.YtfilbgmbmlmdbaaAsF
import Derived.Test.YtfilbgmbmlmdbaaRowAs
namespace Go.Proofs.Ytfilbgmbmlmdbaa
open Go.RowKit

theorem wf_u8 {z : Int} (h : (Lit.int .u8 z).wf = true) : ∃ a : Nat, z = (a : Int) ∧ a < 256 := by
  have h1 : IntKind.u8.min = 0 := rfl
  have h2 : IntKind.u8.max = 255 := rfl
  simp only [Lit.wf, Bool.and_eq_true, decide_eq_true_eq] at h
  exact ⟨z.toNat, by omega, by omega⟩
theorem wf_u32 {z : Int} (h : (Lit.int .u32 z).wf = true) : 0 ≤ z ∧ z < 4294967296 := by
  have h1 : IntKind.u32.min = 0 := rfl
  have h2 : IntKind.u32.max = 4294967295 := rfl
  simp only [Lit.wf, Bool.and_eq_true, decide_eq_true_eq] at h
  omega
theorem IsRow.u32s {w : World} {a : Option Addr} {len cap : Nat} {zs : List Int} (h : IsRow .u32 w a len cap zs) : U32s w (.slice a len cap) len := by
  refine ⟨a, cap, rfl, h.cells.imp id ?_⟩
  rintro ⟨b, off, rfl, hb, hc⟩
  refine ⟨b, off, rfl, hb, fun i hi => ?_⟩
  obtain ⟨z, h1, h2⟩ := hc i hi
  exact ⟨z, h1, wf_u32 h2⟩
theorem fnAs_walk : FnAsWalk := by
  intro a0 len0 cap0 z0 a1 len1 cap1 z1 a2 a3 w w0 w1 w2 w3
  obtain ⟨a, rfl, ha⟩ := wf_u8 w2
  obtain ⟨kd, rfl, hkd⟩ := wf_u8 w3
  exact FnAs_any w len0 len1 cap0 a0 (.slice a1 len1 cap1) a kd w0.u32s w1.u32s w0.le ha hkd

/-- The statement. -/
theorem fnAs_holds : Rows.FnAsSaid := fnAs_over fnAs_walk
#print axioms fnAs_holds
end Go.Proofs.Ytfilbgmbmlmdbaa
