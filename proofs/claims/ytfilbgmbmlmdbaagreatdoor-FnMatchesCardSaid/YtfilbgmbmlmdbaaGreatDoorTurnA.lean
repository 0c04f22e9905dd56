/- Numbers for turning a struct: the contract of turnedOf's own function. -/
import Derived.Test.YtfilbgmbmlmdbaaGreatDoorMakeE
namespace Go.Proofs.YtfilbgmbmlmdbaaGreatDoor
open Go.RowKit

set_option maxRecDepth 100000 in
set_option maxHeartbeats 2000000 in
theorem number_any (k n lb : Nat) (v : Value) (w : World) (hk : k ≤ 1000) (hn : n ≤ 100) (hl : w.cell? ⟨lb, 0, none⟩ = some v) (hs : U32s w v n) :
    Calls Tryz.prog 24 #[.int .i64 k, .pointer (some ⟨lb, 0, none⟩)] w fun e w' => ∃ z : Int, e = .returned (.int .u32 z) ∧ 0 ≤ z ∧ z < 4294967296 ∧ ∃ nd, w' = w.drewN nd := by
  obtain ⟨a, cap, rfl, hs⟩ := hs
  by_cases h0 : n = 0
  · subst h0
    clear hs
    go_enter Tryz.func24, Tryz.ntmps24
    go_wp2
    go_ret
    exact ⟨_, rfl, by omega, by omega, 0, rfl⟩
  · obtain ⟨b, off, rfl, hb, hc⟩ := hs.resolve_left h0
    have hm : k % n < n := Nat.mod_lt _ (by omega)
    obtain ⟨z, hz, hz0, hz1⟩ := hc (k % n) hm
    have hn0 : ((n : Int) == 0) = false := by simpa using h0
    clear hc hs
    go_enter Tryz.func24, Tryz.ntmps24
    go_wp2_with fail
    go_quiet (fail)
    go_wp2
    go_ret
    exact ⟨_, rfl, Int.emod_nonneg _ (by decide), Int.emod_lt_of_pos _ (by decide), nq, rfl⟩

#print axioms number_any
end Go.Proofs.YtfilbgmbmlmdbaaGreatDoor
