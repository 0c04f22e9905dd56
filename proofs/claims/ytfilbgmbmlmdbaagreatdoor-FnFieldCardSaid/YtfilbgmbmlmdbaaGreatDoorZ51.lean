/- Rows: what a walk is told of a slice of integers that came in. Nothing is claimed here. -/
import Derived.Test.YtfilbgmbmlmdbaaGreatDoorRows
import Derived.WalkKit
import Derived.ProofKit
import Derived.OpenShut
import Derived.ShutString
import Derived.ChangeOld
import Derived.Below
set_option linter.unusedSimpArgs false
set_option linter.unusedVariables false
set_option maxRecDepth 1000000
set_option maxHeartbeats 16000000
namespace Go.Proofs.YtfilbgmbmlmdbaaGreatDoor
open Go.ChangeShapes Go.WideShapes Go.ChangeAt Go.RowKit
def IsRow (k : IntKind) (w : World) (a : Option Addr) (len cap : Nat) (zs : List Int) : Prop :=
 (a = none ∧ len = 0 ∧ cap = 0 ∧ zs = []) ∨
 ∃ x, a = some x ∧ len ≤ cap ∧ cap ≤ maxLen ∧ zs.length = cap ∧ (∀ i, i < zs.length → w.cell? (x.add i) = some (.int k (zs.getD i 0))) ∧ ∀ n ∈ zs, (Lit.int k n).wf = true
theorem IsRow.le {k : IntKind} {w : World} {a : Option Addr} {len cap : Nat} {zs : List Int} (h : IsRow k w a len cap zs) : len ≤ cap := by
 rcases h with ⟨_, rfl, rfl, _⟩ | ⟨_, _, h, _⟩
 ·exact Nat.le_refl _
 ·exact h
theorem IsRow.cells {k : IntKind} {w : World} {a : Option Addr} {len cap : Nat} {zs : List Int} (h : IsRow k w a len cap zs) :
  len = 0 ∨ ∃ b off, a = some ⟨b, off, none⟩ ∧ b < w.heap.size ∧ ∀ i, i < len → ∃ z : Int, w.cell? ⟨b, off + i, none⟩ = some (.int k z) ∧ (Lit.int k z).wf = true := by
 rcases h with ⟨_, h, _⟩ | ⟨x, rfl, hle, _, hz, hc, hw⟩
 ·exact .inl h
 ·by_cases h0 : len = 0
  ·exact .inl h0
  obtain ⟨b, off, spot⟩ := x
  have hspot : spot = none := by simpa [Addr.add] using World.cell?_spot (hc 0 (by omega))
  subst hspot
  have hcc : ∀ i, i < len → w.cell? ⟨b, off + i, none⟩ = some (.int k (zs.getD i 0)) := fun i hi => by
   have := hc i (by omega)
   rwa [show (⟨b, off, none⟩ : Addr).add i = ⟨b, off + i, none⟩ by simp [Addr.add]] at this
  refine .inr ⟨b, off, rfl, ?_, fun i hi => ⟨_, hcc i hi, hw _ ?_⟩⟩
  ·have h := hcc 0 (by omega)
   simp only [World.cell?] at h
   cases hb : w.heap[b]? with
   | none => rw [hb] at h; simp at h
   | some o => exact (Array.getElem?_eq_some_iff.1 hb).1
  ·have hi' : i < zs.length := by omega
   rw [List.getD_eq_getElem?_getD, List.getElem?_eq_getElem hi', Option.getD_some]
   exact List.getElem_mem hi'
end Go.Proofs.YtfilbgmbmlmdbaaGreatDoor
