/- The law FnValue holds for every input: a relocation of an enum value tells whether another one may stand for it, and both values. Condition: the package's six sentinel errors are what the program's text lays; the card ties that to the text. -/
import Derived.Test.YtfilbgmbmlmdbaaGreatDoorRelR
import Derived.Test.YtfilbgmbmlmdbaaGreatDoorRowValue
import Derived.Test.YtfilbgmbmlmdbaaGreatDoorListB
import Derived.Test.YtfilbgmbmlmdbaaGreatDoorStrC
namespace Go.Proofs.YtfilbgmbmlmdbaaGreatDoor
open Go.RowKit

theorem z_u32 {z : Int} (h : (Lit.int .u32 z).wf = true) : 0 ≤ z ∧ z < 4294967296 := by
  have h1 : IntKind.u32.min = 0 := rfl
  have h2 : IntKind.u32.max = 4294967295 := rfl
  simp only [Lit.wf, Bool.and_eq_true, decide_eq_true_eq] at h
  omega
theorem z_u8 {z : Int} (h : (Lit.int .u8 z).wf = true) : 0 ≤ z ∧ z < 256 := by
  have h1 : IntKind.u8.min = 0 := rfl
  have h2 : IntKind.u8.max = 255 := rfl
  simp only [Lit.wf, Bool.and_eq_true, decide_eq_true_eq] at h
  omega
theorem fnValue_walk : FnValueWalk := by
  intro a0 a1 a2 a3 a4 a5 w0 w1 w2 w a six
  have k0 := z_u32 w0
  have k1 := z_u32 w1
  have k2 := z_u8 w2
  obtain ⟨n, rfl⟩ : ∃ n : Nat, a0 = (n : Int) := ⟨a0.toNat, by omega⟩
  obtain ⟨m, rfl⟩ : ∃ m : Nat, a1 = (m : Int) := ⟨a1.toNat, by omega⟩
  obtain ⟨j, rfl⟩ : ∃ j : Nat, a2 = (j : Int) := ⟨a2.toNat, by omega⟩
  exact FnValue_of put_any structC_zero w n m j a3 a4 a5 (by omega) (by omega) (by omega) (World.var?_cell zG4 six.v4 0)

/-- The statement. -/
theorem fnValue_holds : Rows.FnValueCardSaid := fnValue_card fnValue_walk
#print axioms fnValue_holds
end Go.Proofs.YtfilbgmbmlmdbaaGreatDoor
