/- What stands behind names, and sizes: contracts of the set's own methods. -/
import Derived.Test.YtfilbgmbmlmdbaaGreatDoorMake
namespace Go.Proofs.YtfilbgmbmlmdbaaGreatDoor
open Go.RowKit

set_option maxRecDepth 100000 in
set_option maxHeartbeats 1000000 in
theorem behind_any (D : Nat → Prop) (b : Nat) (t : Ty) (w : World) (r : Rep w D b t) :
    Calls Tryz.prog 13 #[.pointer (some ⟨b, 0, none⟩)] w fun e w' => ∃ c, e = .returned (.pointer (some ⟨c, 0, none⟩)) ∧ Rep w D c t.behind ∧ w = w' := by
  go_enter Tryz.func13, Tryz.ntmps13
  go_wp2
  go_loopg [0] t.layers (fun k v wr => ∃ c u, v = .pointer (some ⟨c, 0, none⟩) ∧ Rep w D c u ∧ u.behind = t.behind ∧ u.layers ≤ k ∧ w = wr)
  case atStart => exact ⟨b, t, rfl, r, rfl, Nat.le_refl _, rfl⟩
  case round =>
    obtain ⟨c, u, rfl, ru, hu, hk, rfl⟩ := hrel
    rcases ru.peel with ⟨k, h0, -, k8, k10, hb⟩ | ⟨c2, u2, h0, h4, r2, hb, hl⟩ | ⟨c2, u2, h0, h4, r2, hb, hl⟩
    · have Hu := Lib.hid (hb.symm.trans hu); clear hu hb
      go_wp2
      go_ret
      exact ⟨c, rfl, Hu.out ▸ ru, rfl⟩
    all_goals
      have Hu := Lib.hid (hb.symm.trans hu); clear hu hb
      have hlt : u2.layers < gk := by omega
      clear hl
      go_wp2
      go_roundg u2.layers
      case measure => exact hlt
      case rel => exact ⟨c2, u2, rfl, r2, Hu.out, Nat.le_refl _, rfl⟩

theorem Ty.bytes_behind (t : Ty) : t.behind.bytes = t.bytes := by
  induction t with
  | named nm t ih => exact ih
  | cst t ih => exact ih
  | _ => rfl
/-- What the size of a type that is no array is read from. -/
theorem Rep.flat {w : World} {D : Nat → Prop} {b : Nat} {t : Ty} (r : Rep w D b t) (hb : t.behind = t) (ha : ∀ n u, t ≠ .arr n u) :
    (w.cell? ⟨b, 0, none⟩ = some (.int .i64 2) ∧ (8 : Int) = t.bytes) ∨
    ∃ k z : Int, w.cell? ⟨b, 0, none⟩ = some (.int .i64 k) ∧ (k == 2) = false ∧ (k == 3) = false ∧ w.cell? ⟨b, 2, none⟩ = some (.int .i64 z) ∧ z = t.bytes := by
  cases r with
  | int h hd => exact .inr ⟨1, _, h.cell 0, rfl, rfl, h.cell 2, rfl⟩
  | ptr h hd _ => exact .inl ⟨h.cell 0, rfl⟩
  | arr h hd _ => exact absurd rfl (ha _ _)
  | @named b c nm t h hd r => exact absurd (congrArg Ty.layers hb) (by
      have : ∀ t : Ty, t.behind.layers = 0 := fun t => by induction t with | named nm t ih => exact ih | cst t ih => exact ih | _ => rfl
      rw [this]; simp [Ty.layers])
  | @cst b c t h hd r => exact absurd (congrArg Ty.layers hb) (by
      have : ∀ t : Ty, t.behind.layers = 0 := fun t => by induction t with | named nm t ih => exact ih | cst t ih => exact ih | _ => rfl
      rw [this]; simp [Ty.layers])
  | enm h hd _ _ _ => exact .inr ⟨6, 4, h.cell 0, rfl, rfl, h.cell 2, rfl⟩
  | @comp b sz n un nm pn py pa pb v xs pc h hd _ _ _ _ => cases un <;> exact .inr ⟨_, _, h.cell 0, rfl, rfl, h.cell 2, rfl⟩
theorem Ty.behind_behind (t : Ty) : t.behind.behind = t.behind := by
  induction t with
  | named nm t ih => exact ih
  | cst t ih => exact ih
  | _ => rfl

set_option maxRecDepth 100000 in
set_option maxHeartbeats 1000000 in
theorem bytes_flat (D : Nat → Prop) (b : Nat) (t : Ty) (w : World) (r : Rep w D b t) (ha : ∀ n u, t.behind ≠ .arr n u) :
    Calls Tryz.prog 12 #[.pointer (some ⟨b, 0, none⟩)] w fun e w' => e = .returned (.int .i64 t.bytes) ∧ w = w' := by
  go_enter Tryz.func12, Tryz.ntmps12
  go_wp2_with fail
  refine (behind_any D b t w r).mono ?_
  rintro e w' ⟨c, rfl, rc, rfl⟩
  rcases rc.flat t.behind_behind ha with ⟨h0, hz⟩ | ⟨k, z, h0, k2, k3, h2, hz⟩
  · have Hz := Lib.hid (hz.trans (congrArg Int.ofNat t.bytes_behind)); clear hz
    go_wp2_with fail
    go_ret
    exact ⟨by rw [Hz.out]; rfl, rfl⟩
  · have Hz := Lib.hid (hz.trans (congrArg Int.ofNat t.bytes_behind)); clear hz
    go_wp2_with fail
    go_ret
    exact ⟨by rw [Hz.out]; rfl, rfl⟩

/-- Arrays are of what is no array, and not too long. -/
def Flat (t : Ty) : Prop := ∀ n u, t.behind = .arr n u → (∀ m x, u.behind ≠ .arr m x) ∧ n * u.bytes < 4611686018427387904
theorem Rep.elem {w : World} {D : Nat → Prop} {b n : Nat} {u : Ty} (r : Rep w D b (.arr n u)) :
    ∃ c, w.cell? ⟨b, 0, none⟩ = some (.int .i64 3) ∧ w.cell? ⟨b, 2, none⟩ = some (.int .i64 n) ∧ w.cell? ⟨b, 4, none⟩ = some (.pointer (some ⟨c, 0, none⟩)) ∧ Rep w D c u := by
  cases r with
  | arr h hd r => exact ⟨_, h.cell 0, h.cell 2, h.cell 4, r⟩
theorem Rep.drewN {w : World} {D : Nat → Prop} {b : Nat} {t : Ty} (r : Rep w D b t) (n : Nat) : Rep (w.drewN n) D b t := Rep.keep (w := w) (w' := w.drewN n) (D := D) (D' := D) (fun _ _ _ => rfl) (fun _ _ h => h) r

set_option maxRecDepth 100000 in
set_option maxHeartbeats 1000000 in
theorem bytes_any (D : Nat → Prop) (b : Nat) (t : Ty) (w : World) (r : Rep w D b t) (hf : Flat t) :
    Calls Tryz.prog 12 #[.pointer (some ⟨b, 0, none⟩)] w fun e w' => e = .returned (.int .i64 t.bytes) ∧ ∃ nd, w' = w.drewN nd := by
  by_cases ha : ∃ n u, t.behind = .arr n u
  · obtain ⟨n, u, hb⟩ := ha
    obtain ⟨hu, hlt⟩ := hf n u hb
    have Hb : Hid (t.bytes = n * u.bytes) := Lib.hid (by rw [← t.bytes_behind, hb]; rfl)
    go_enter Tryz.func12, Tryz.ntmps12
    go_wp2_with fail
    refine (behind_any D b t w r).mono ?_
    rintro e w' ⟨c, rfl, rc, rfl⟩
    rw [hb] at rc
    clear hb
    obtain ⟨c2, h0, h2, h4, r2⟩ := rc.elem
    go_wp2_with fail
    go_quiet ((go_at_call 12; exact Calls.quiet_of_same ((bytes_flat D c2 u _ (r2.drewN _) hu).mono fun _ _ ⟨a, b⟩ => ⟨a, b.symm⟩)))
    go_wp2_with fail
    go_ret
    exact ⟨by rw [Hb.out]; exact congrArg (fun z => Ending.returned (Value.int .i64 z)) (Int.natCast_mul _ _).symm, nq, rfl⟩
  · refine (bytes_flat D b t w r (fun n u h => ha ⟨n, u, h⟩)).mono ?_
    rintro e w' ⟨h1, h2⟩
    exact ⟨h1, 0, h2.symm⟩

#print axioms behind_any
end Go.Proofs.YtfilbgmbmlmdbaaGreatDoor
