/- Whether a type of the reference may stand for another one. Nothing is claimed here. -/
import Derived.Test.YtfilbgmbmlmdbaaGreatDoorTurnB
namespace Go.Proofs.YtfilbgmbmlmdbaaGreatDoor
open Go.RowKit

theorem Rep.kindCell {w : World} {D : Nat → Prop} {b : Nat} {t : Ty} (r : Rep w D b t) : w.cell? ⟨b, 0, none⟩ = some (.int .i64 (t.kind : Int)) := by
  cases r with
  | int h _ => exact h.cell 0
  | ptr h _ _ => exact h.cell 0
  | arr h _ _ => exact h.cell 0
  | named h _ _ => exact h.cell 0
  | cst h _ _ => exact h.cell 0
  | enm h _ _ _ _ => exact h.cell 0
  | @comp b sz n un nm pn py pa pb v xs pc h _ _ _ _ _ => cases un <;> exact h.cell 0
theorem Rep.ofCell {w : World} {D : Nat → Prop} {b : Nat} {t : Ty} (r : Rep w D b t) (h : t.kind = 2 ∨ t.kind = 3) : ∃ c u, w.cell? ⟨b, 4, none⟩ = some (.pointer (some ⟨c, 0, none⟩)) ∧ Rep w D c u ∧ ((t = .ptr u) ∨ ∃ n, t = .arr n u) := by
  cases r with
  | int h' _ => simp [Ty.kind] at h
  | ptr h' _ r => exact ⟨_, _, h'.cell 4, r, .inl rfl⟩
  | arr h' _ r => exact ⟨_, _, h'.cell 4, r, .inr ⟨_, rfl⟩⟩
  | named h' _ _ => simp [Ty.kind] at h
  | cst h' _ _ => simp [Ty.kind] at h
  | enm h' _ _ _ _ => simp [Ty.kind] at h
  | @comp b sz n un nm pn py pa pb v xs pc h' _ _ _ _ _ => cases un <;> simp [Ty.kind] at h
/-- Pointers and arrays are of ints. -/
def OfInts (t : Ty) : Prop := ∀ u, (t.behind = .ptr u ∨ ∃ n, t.behind = .arr n u) → ∃ sz sg nm, u = .int sz sg nm
theorem Rep.drews {w : World} {D : Nat → Prop} {b : Nat} {t : Ty} (r : Rep w D b t) (n : Nat) : Rep (w.drewN n) D b t := Rep.keep (w := w) (w' := w.drewN n) (D := D) (D' := D) (fun _ _ _ => rfl) (fun _ _ h => h) r

set_option maxRecDepth 100000 in
set_option maxHeartbeats 2000000 in
theorem stands_int (D D' : Nat → Prop) (b c : Nat) (w : World) {sz sz' : Nat} {sg sg' : Bool} {nm nm' : ByteArray} (r : Rep w D b (.int sz sg nm)) (r' : Rep w D' c (.int sz' sg' nm')) :
    Calls Tryz.prog 18 #[.pointer (some ⟨b, 0, none⟩), .pointer (some ⟨c, 0, none⟩)] w fun e w' => e = .returned (.bool true) ∧ Below w.heap.size w w' := by
  go_enter Tryz.func18, Tryz.ntmps18
  go_wp2_with fail
  refine (behind_any D b _ w r).mono ?_
  rintro e w1 ⟨b', rfl, rb, rfl⟩
  go_wp2_with fail
  refine (behind_any D' c _ w r').mono ?_
  rintro e w1 ⟨c', rfl, rc, rfl⟩
  have k1 := rb.kindCell
  have k2 := rc.kindCell
  have lb := rb.lt
  have lc := rc.lt
  simp only [Ty.behind, Ty.kind] at k1 k2
  clear rb rc r r'
  go_wp2_with fail
  go_quiet (fail)
  go_wp2_with fail
  go_ret
  exact ⟨rfl, below_drewN (Below.refl _ _) _⟩
set_option maxRecDepth 100000 in
set_option maxHeartbeats 4000000 in
theorem stands_any (D D' : Nat → Prop) (b c : Nat) (t u : Ty) (w : World) (r : Rep w D b t) (r' : Rep w D' c u) (ht : OfInts t) (hu : OfInts u) :
    Calls Tryz.prog 18 #[.pointer (some ⟨b, 0, none⟩), .pointer (some ⟨c, 0, none⟩)] w fun e w' => e = .returned (.bool (decide (t.behind.kind = u.behind.kind))) ∧ Below w.heap.size w w' := by
  by_cases hk : t.behind.kind = u.behind.kind
  · rw [decide_eq_true hk]
    rcases (by omega : t.behind.kind = 2 ∨ t.behind.kind = 3 ∨ (t.behind.kind ≠ 2 ∧ t.behind.kind ≠ 3)) with K1 | K1 | K1
    · have K2 := hk.symm.trans K1
      go_enter Tryz.func18, Tryz.ntmps18
      go_wp2_with fail
      refine (behind_any D b _ w r).mono ?_
      rintro e w1 ⟨b', rfl, rb, rfl⟩
      go_wp2_with fail
      refine (behind_any D' c _ w r').mono ?_
      rintro e w1 ⟨c', rfl, rc, rfl⟩
      have k1 := rb.kindCell
      have k2 := rc.kindCell
      have lb := rb.lt
      have lc := rc.lt
      rw [K2] at k2
      rw [K1] at k1
      obtain ⟨b2, u2, o1, r1, h1⟩ := rb.ofCell (by omega)
      obtain ⟨c2, v2, o2, r2, h2⟩ := rc.ofCell (by omega)
      obtain ⟨sz, sg, nm, rfl⟩ := ht u2 h1
      obtain ⟨sz', sg', nm', rfl⟩ := hu v2 h2
      have R1 := Lib.hid r1
      have R2 := Lib.hid r2
      clear rb rc r r' ht hu hk K1 K2 h1 h2 r1 r2
      go_wp2_with fail
      go_quiet (fail)
      go_wp2_with fail
      refine wp_world (fun W => ∃ d, W = w.drewN d) ⟨_, rfl⟩ (fun W hW => ?_)
      obtain ⟨d, hW⟩ := hW
      have o1W : W.cell? ⟨b', 4, none⟩ = some (.pointer (some ⟨b2, 0, none⟩)) := by rw [hW]; exact o1
      have o2W : W.cell? ⟨c', 4, none⟩ = some (.pointer (some ⟨c2, 0, none⟩)) := by rw [hW]; exact o2
      have lbW : b' < W.heap.size := by rw [hW]; exact lb
      have lcW : c' < W.heap.size := by rw [hW]; exact lc
      have hbW : Below w.heap.size w W := by rw [hW]; exact below_drewN (Below.refl _ _) _
      have R1W : Hid (Rep W D b2 (.int sz sg nm)) := Lib.hid (by rw [hW]; exact R1.out.drews _)
      have R2W : Hid (Rep W D' c2 (.int sz' sg' nm')) := Lib.hid (by rw [hW]; exact R2.out.drews _)
      have HbW := Lib.hid hbW
      clear hW hbW R1 R2 o1 o2 lb lc k1 k2
      go_still_tail 8, (by kernel_rfl)
      go_wp2_with fail
      have hdr : Below W.heap.size W W.drew := (Below.refl _ _).drew
      refine (stands_int D D' b2 c2 W.drew (R1W.out.old hdr) (R2W.out.old hdr)).mono ?_
      rintro e w9 ⟨rfl, hb9⟩
      go_wp2_with fail
      go_ret
      exact ⟨rfl, (HbW.out.drew).trans (hb9.mono HbW.out.size)⟩
    · have K2 := hk.symm.trans K1
      go_enter Tryz.func18, Tryz.ntmps18
      go_wp2_with fail
      refine (behind_any D b _ w r).mono ?_
      rintro e w1 ⟨b', rfl, rb, rfl⟩
      go_wp2_with fail
      refine (behind_any D' c _ w r').mono ?_
      rintro e w1 ⟨c', rfl, rc, rfl⟩
      have k1 := rb.kindCell
      have k2 := rc.kindCell
      have lb := rb.lt
      have lc := rc.lt
      rw [K2] at k2
      rw [K1] at k1
      obtain ⟨b2, u2, o1, r1, h1⟩ := rb.ofCell (by omega)
      obtain ⟨c2, v2, o2, r2, h2⟩ := rc.ofCell (by omega)
      obtain ⟨sz, sg, nm, rfl⟩ := ht u2 h1
      obtain ⟨sz', sg', nm', rfl⟩ := hu v2 h2
      have R1 := Lib.hid r1
      have R2 := Lib.hid r2
      clear rb rc r r' ht hu hk K1 K2 h1 h2 r1 r2
      go_wp2_with fail
      go_quiet (fail)
      go_wp2_with fail
      refine wp_world (fun W => ∃ d, W = w.drewN d) ⟨_, rfl⟩ (fun W hW => ?_)
      obtain ⟨d, hW⟩ := hW
      have o1W : W.cell? ⟨b', 4, none⟩ = some (.pointer (some ⟨b2, 0, none⟩)) := by rw [hW]; exact o1
      have o2W : W.cell? ⟨c', 4, none⟩ = some (.pointer (some ⟨c2, 0, none⟩)) := by rw [hW]; exact o2
      have lbW : b' < W.heap.size := by rw [hW]; exact lb
      have lcW : c' < W.heap.size := by rw [hW]; exact lc
      have hbW : Below w.heap.size w W := by rw [hW]; exact below_drewN (Below.refl _ _) _
      have R1W : Hid (Rep W D b2 (.int sz sg nm)) := Lib.hid (by rw [hW]; exact R1.out.drews _)
      have R2W : Hid (Rep W D' c2 (.int sz' sg' nm')) := Lib.hid (by rw [hW]; exact R2.out.drews _)
      have HbW := Lib.hid hbW
      clear hW hbW R1 R2 o1 o2 lb lc k1 k2
      go_still_tail 8, (by kernel_rfl)
      go_wp2_with fail
      have hdr : Below W.heap.size W W.drew := (Below.refl _ _).drew
      refine (stands_int D D' b2 c2 W.drew (R1W.out.old hdr) (R2W.out.old hdr)).mono ?_
      rintro e w9 ⟨rfl, hb9⟩
      go_wp2_with fail
      go_ret
      exact ⟨rfl, (HbW.out.drew).trans (hb9.mono HbW.out.size)⟩
    · have e1 : ((t.behind.kind : Int) == 2) = false := by simp; omega
      have e2 : ((t.behind.kind : Int) == 3) = false := by simp; omega
      go_enter Tryz.func18, Tryz.ntmps18
      go_wp2_with fail
      refine (behind_any D b _ w r).mono ?_
      rintro e w1 ⟨b', rfl, rb, rfl⟩
      go_wp2_with fail
      refine (behind_any D' c _ w r').mono ?_
      rintro e w1 ⟨c', rfl, rc, rfl⟩
      have k1 := rb.kindCell
      have k2 := rc.kindCell
      have lb := rb.lt
      have lc := rc.lt
      rw [← hk] at k2
      obtain ⟨K, hK⟩ : ∃ K, K = t.behind.kind := ⟨_, rfl⟩
      rw [← hK] at k1 k2 e1 e2
      clear rb rc r r' ht hu hk K1 hK
      go_wp2_with fail
      go_quiet (fail)
      go_wp2_with fail
      go_ret
      exact ⟨rfl, below_drewN (Below.refl _ _) _⟩
  · rw [decide_eq_false hk]
    have HK : ((t.behind.kind : Int) != (u.behind.kind : Int)) = true := by simp; omega
    go_enter Tryz.func18, Tryz.ntmps18
    go_wp2_with fail
    refine (behind_any D b _ w r).mono ?_
    rintro e w1 ⟨b', rfl, rb, rfl⟩
    go_wp2_with fail
    refine (behind_any D' c _ w r').mono ?_
    rintro e w1 ⟨c', rfl, rc, rfl⟩
    have k1 := rb.kindCell
    have k2 := rc.kindCell
    have lb := rb.lt
    have lc := rc.lt
    clear rb rc r r' ht hu hk
    go_wp2_with fail
    go_quiet (fail)
    go_wp2_with fail
    go_ret
    exact ⟨rfl, below_drewN (Below.refl _ _) _⟩
#print axioms stands_any
end Go.Proofs.YtfilbgmbmlmdbaaGreatDoor
