/- The law FnField holds for every input: a relocation of a field, between types that the set makes, comes to what the reference's rules tell, by the package's own calculation. Condition: the package's six sentinel errors are what the program's text lays; the card ties that to the text. -/
import Derived.Test.YtfilbgmbmlmdbaaGreatDoorZ49
import Derived.Test.YtfilbgmbmlmdbaaGreatDoorZ52
import Derived.Test.YtfilbgmbmlmdbaaGreatDoorZ50
set_option linter.unusedSimpArgs false
set_option linter.unusedVariables false
set_option maxRecDepth 1000000
set_option maxHeartbeats 16000000
namespace Go.Proofs.YtfilbgmbmlmdbaaGreatDoor
open Go.RowKit
theorem wf_u8 {z : Int} (h : (Lit.int .u8 z).wf = true) : ∃ a : Nat, z = (a : Int) ∧ a < 256 := by
 have h1 : IntKind.u8.min = 0 := rfl
 have h2 : IntKind.u8.max = 255 := rfl
 simp only [Lit.wf, Bool.and_eq_true, decide_eq_true_eq] at h
 exact ⟨z.toNat, by omega, by omega⟩
theorem wf_u32 {z : Int} (h : (Lit.int .u32 z).wf = true) : 0 ≤ z ∧ z < 4294967296 := by
 have h1 : IntKind.u32.min = 0 := rfl
 have h2 : IntKind.u32.max = 4294967295 := rfl
 simp only [Lit.wf, Bool.and_eq_true, decide_eq_true_eq] at h
 omega
theorem IsRow.u32s {w : World} {a : Option Addr} {len cap : Nat} {zs : List Int} (h : IsRow .u32 w a len cap zs) : U32s w (.slice a len cap) len := by
 refine ⟨a, cap, rfl, h.cells.imp id ?_⟩
 rintro ⟨b, off, rfl, hb, hc⟩
 refine ⟨b, off, rfl, hb, fun i hi => ?_⟩
 obtain ⟨z, h1, h2⟩ := hc i hi
 exact ⟨z, h1, wf_u32 h2⟩
theorem IsRow.u8s {w : World} {a : Option Addr} {len cap : Nat} {zs : List Int} (h : IsRow .u8 w a len cap zs) : U8s w (.slice a len cap) len := by
 refine ⟨a, cap, rfl, h.le, h.cells.imp id ?_⟩
 rintro ⟨b, off, rfl, hb, hc⟩
 refine ⟨b, off, rfl, hb, fun i hi => ?_⟩
 obtain ⟨z, h1, h2⟩ := hc i hi
 obtain ⟨n, rfl, hn⟩ := wf_u8 h2
 exact ⟨n, h1, hn⟩
theorem fnField_walk : FnFieldWalk := by
 intro a0 len0 cap0 z0 a1 len1 cap1 z1 a2 len2 cap2 z2 a3 a4 w a six sixe w0 w1 w2 w3
 obtain ⟨av, rfl, hav⟩ := wf_u8 w3
 exact FnField_of put_any w len0 len1 len2 cap0 cap2 a0 a2 (.slice a1 len1 cap1) av a4 w0.u32s w1.u32s w2.u8s w0.le hav six sixe
theorem fnField_holds : Rows.FnFieldCardSaid := fnField_card fnField_walk
#print axioms fnField_holds
end Go.Proofs.YtfilbgmbmlmdbaaGreatDoor
