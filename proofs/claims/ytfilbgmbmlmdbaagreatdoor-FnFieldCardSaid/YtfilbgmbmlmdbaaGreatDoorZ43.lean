/- An accessor by numbers, and whether it ends at a part with a name: the walks. Nothing is claimed here. -/
import Derived.Test.YtfilbgmbmlmdbaaGreatDoorZ27
set_option linter.unusedSimpArgs false
set_option linter.unusedVariables false
set_option maxRecDepth 1000000
set_option maxHeartbeats 16000000
namespace Go.Proofs.YtfilbgmbmlmdbaaGreatDoor
open Go.RowKit Go.MapKept
def onP : List Nat → Ty → Prop
 | [], _ => True
 | i :: r, .comp _ _ _ n pn py _ _ => i < n ∧ onP r (if (pn i).size = 0 then (py i).behind else py i)
 | _ :: r, .arr _ u => onP r u
 | _ :: _, _ => False
def U8s (w : World) (v : Value) (n : Nat) : Prop :=
 ∃ a cap, v = .slice a n cap ∧ n ≤ cap ∧ (n = 0 ∨ ∃ b off, a = some ⟨b, off, none⟩ ∧ b < w.heap.size ∧ ∀ i, i < n → ∃ z : Nat, w.cell? ⟨b, off + i, none⟩ = some (.int .u8 z) ∧ z < 256)
structure PathOk (W : World) (t : Ty) (e : Ending) (w : World) : Prop where
 ex : ∃ g L cap n0 p, e = .returned (.slice (some ⟨g, 0, none⟩) L cap) ∧ Acc w g L (n0 :: p) 0 ∧ L ≤ 5 ∧ L ≤ cap ∧ g < w.heap.size ∧ W.heap.size ≤ g ∧ onP p t
 old : Below W.heap.size W w
structure PthS (W : World) (t : Ty) (i : Nat) (v : Value) (c : Nat) (w : World) : Prop where
 ex : ∃ g L cap n0 p u, v = .slice (some ⟨g, 0, none⟩) L cap ∧ w.ownsRow W.heap.size 3 1 v L ((n0 :: p).map fun x : Nat => Value.int .i64 x) ∧ (∀ x ∈ n0 :: p, x ≤ 255) ∧ L ≤ i + 1 ∧ L ≤ cap ∧ Rep W Nowhere c u ∧ FOk u ∧ (∀ r, onP r u → onP (p ++ r) t)
 old : Below W.heap.size W w
theorem PthS.done {W w : World} {t : Ty} {i c : Nat} {v : Value} (h : PthS W t i v c w) (hi : i ≤ 4) : PathOk W t (.returned v) w := by
 obtain ⟨⟨g, L, cap, n0, p, u, rfl, ho, hx, hL, hc, -, -, hv⟩, hb⟩ := h
 have hp := hv [] trivial
 rw [List.append_nil] at hp
 obtain ⟨h1, h2⟩ := ho.lt g rfl
 refine ⟨⟨g, L, cap, n0, p, rfl, ⟨?_, fun j x hj => ⟨?_, hx x (List.mem_of_getElem? hj)⟩⟩, by omega, hc, h2, h1, hp⟩, hb⟩
 ·have := ho.1; simp only [List.length_map, Nat.mul_one] at this; omega
 ·rw [Nat.zero_add]
  exact own_cell ho (by rw [List.getElem?_map, hj]; rfl)
theorem PthS.start {W w : World} {t : Ty} {b n0 : Nat} (h0 : n0 ≤ 255) (hb : Blk w W.heap.size #[.int .i64 (n0 : Nat)] 3) (ho : Below W.heap.size W w) (r : Rep W Nowhere b t) (ok : FOk t) : PthS W t 0 (.slice (some ⟨W.heap.size, 0, none⟩) 1 1) b w :=
 ⟨⟨W.heap.size, 1, 1, n0, [], t, rfl, ⟨rfl, .inr ⟨_, _, _, rfl, Nat.le_refl _, hb, Nat.le_refl _, by unfold maxLen; omega, rfl, rfl⟩⟩, by simpa using h0, Nat.le_refl _, Nat.le_refl _, r, ok, fun r h => h⟩, ho⟩
theorem own_cap {w : World} {base e size n g cap : Nat} {xs : List Value} (h : w.ownsRow base e size (.slice (some ⟨g, 0, none⟩) n cap) n xs) : n ≤ cap := by
 obtain ⟨-, h2⟩ := h
 rcases h2 with h2 | ⟨g2, cap2, cur, e2, _, _, h3, _⟩
 ·cases h2.1
 ·simp only [Value.slice.injEq, true_and] at e2
  obtain ⟨-, rfl⟩ := e2
  exact h3
theorem PthS.step {W w0 w4 : World} {t u' : Ty} {i g L lcap q0 ix g4 cap4 c' : Nat} {q : List Nat} (ho : w0.ownsRow W.heap.size 3 1 (.slice (some ⟨g, 0, none⟩) L lcap) L ((q0 :: q).map fun x : Nat => Value.int .i64 x))
  (ha : Appended w0 W.heap.size 3 1 (.slice (some ⟨g, 0, none⟩) L lcap) L 1 ((q0 :: q).map fun x : Nat => Value.int .i64 x) [.int .i64 (ix : Nat)] g4 cap4 w4) (hold : Below W.heap.size W w0) (hx : ∀ x ∈ q0 :: q, x ≤ 255) (hLi : L ≤ i + 1) (hix : ix ≤ 255)
  (r' : Rep W Nowhere c' u') (ok' : FOk u') (hv : ∀ r, onP r u' → onP (q ++ ix :: r) t) : PthS W t (i + 1) (.slice (some ⟨g4, 0, none⟩) (L + 1) cap4) c' w4 := by
 refine ⟨⟨g4, L + 1, cap4, q0, q ++ [ix], u', rfl, ?_, ?_, by omega, own_cap ha.1, r', ok', fun r hr => ?_⟩, ha.below ho hold hold.size (Nat.le_refl _)⟩
 ·have := ha.1
  rw [show (q0 :: (q ++ [ix])).map (fun x : Nat => Value.int .i64 x) = (q0 :: q).map (fun x : Nat => Value.int .i64 x) ++ [.int .i64 (ix : Nat)] by simp]
  exact this
 ·intro x hm
  rw [← List.cons_append, List.mem_append] at hm
  rcases hm with hm | hm
  ·exact hx x hm
  ·rw [List.mem_singleton.1 hm]; exact hix
 ·rw [List.append_assoc]
  exact hv r hr
end Go.Proofs.YtfilbgmbmlmdbaaGreatDoor
