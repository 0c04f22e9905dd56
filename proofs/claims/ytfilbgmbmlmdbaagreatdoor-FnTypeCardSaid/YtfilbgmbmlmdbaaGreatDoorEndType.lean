/- The law FnType holds for every input: a relocation of a type tells whether another one may stand for it, and both sizes. Condition: the package's six sentinel errors are what the program's text lays; the card ties that to the text. -/
import Derived.Test.YtfilbgmbmlmdbaaGreatDoorRelN
import Derived.Test.YtfilbgmbmlmdbaaGreatDoorRowType
import Derived.Test.YtfilbgmbmlmdbaaGreatDoorListB
import Derived.Test.YtfilbgmbmlmdbaaGreatDoorStrC
namespace Go.Proofs.YtfilbgmbmlmdbaaGreatDoor
open Go.RowKit

theorem z_u32 {z : Int} (h : (Lit.int .u32 z).wf = true) : 0 ≤ z ∧ z < 4294967296 := by
  have h1 : IntKind.u32.min = 0 := rfl
  have h2 : IntKind.u32.max = 4294967295 := rfl
  simp only [Lit.wf, Bool.and_eq_true, decide_eq_true_eq] at h
  omega
theorem fnType_walk : FnTypeWalk := by
  intro a0 a1 a2 a3 w0 w1 w a six
  exact FnType_of put_any structC_zero w a0 a1 a2 a3 (z_u32 w0) (z_u32 w1) (World.var?_cell zG3 six.v3 0)

/-- The statement. -/
theorem fnType_holds : Rows.FnTypeCardSaid := fnType_card fnType_walk
#print axioms fnType_holds
end Go.Proofs.YtfilbgmbmlmdbaaGreatDoor
