/- The search for an enumeration's value of one's own name. Nothing is claimed here. -/
import Derived.Test.YtfilbgmbmlmdbaaGreatDoorRelO
namespace Go.Proofs.YtfilbgmbmlmdbaaGreatDoor
open Go.RowKit Go.MapKept
/-- Where a name is first found among some. -/
def FoundAt (vn : Nat → ByteArray) (q : Nat) (nm : ByteArray) : Option Nat → Prop
  | some j => j < q ∧ vn j = nm ∧ ∀ x, x < j → vn x ≠ nm
  | none => ∀ x, x < q → vn x ≠ nm
/-- What the search gives. -/
def findV (vg1 i vg2 : Nat) (ev : Value) : Option Nat → Value
  | some j => .tuple #[.pointer (some ⟨vg1, i * 2, none⟩), .pointer (some ⟨vg2, j * 2, none⟩), .nilIface]
  | none => .tuple #[.pointer none, .pointer none, ev]
section
variable {w : World} {n1 og1 t1 n2 og2 t2 : Nat} {f1 f2 : Nat → RowD} {pt1 pt2 : Nat → TypeId} {ob1 ob2 : Nat → Nat} {q1 vg1 cap1 i ab acap : Nat} {vn1 : Nat → ByteArray} {vv1 : Nat → Int}
set_option linter.unusedSimpArgs false in
set_option maxRecDepth 100000 in
set_option maxHeartbeats 4000000 in
theorem find_other (h1 : Outs w n1 f1 og1 pt1 ob1) (h2 : Outs w n2 f2 og2 pt2 ob2) (ht1 : t1 < n1) (ht2 : t2 < n2) (hp1 : Peels n1 f1) (hp2 : Peels n2 f2) (k1 : (f1 t1).k = 6) (k2 : (f2 t2).k ≠ 6)
    (o1 : EnumObj w ob1 t1 q1 vg1 cap1 vn1 vv1) (hi : i < q1) (ha : w.cell? ⟨ab, 0, none⟩ = some (.int .i64 (i : Int))) {ev : Value} (hev : w.cell? ⟨4, 0, none⟩ = some ev) :
    Calls Tryz.prog 60 #[objAt pt1 ob1 t1, .slice (some ⟨ab, 0, none⟩) 1 acap, objAt pt2 ob2 t2] w fun e w' => e = .returned (.tuple #[.pointer none, .pointer none, ev]) ∧ Below w.heap.size w w' := by
  have le := World.block_lt_of_cell? w _ hev
  simp only at le
  have HE := Lib.hid (enumValue_any (acap := acap) h1 ht1 hp1 k1 o1 hi ha)
  have HA := Lib.hid (asEnum_no h2 ht2 hp2 k2)
  clear h1 h2 hp1 hp2 k1 k2 o1 ha
  go_enter Tryz.func60, Tryz.ntmps60
  go_wp2_with fail
  refine HE.out.mono ?_
  rintro e w9 ⟨rfl, rfl⟩
  go_wp2_with fail
  refine HA.out.mono ?_
  rintro e w9 ⟨rfl, rfl⟩
  go_wp2_with fail
  go_quiet (fail)
  go_wp2_with fail
  go_ret3
  exact ⟨rfl, below_drewN (Below.refl _ _) _⟩
set_option linter.unusedSimpArgs false in
set_option maxRecDepth 100000 in
set_option maxHeartbeats 4000000 in
theorem find_enum (h1 : Outs w n1 f1 og1 pt1 ob1) (h2 : Outs w n2 f2 og2 pt2 ob2) (ht1 : t1 < n1) (ht2 : t2 < n2) (hp1 : Peels n1 f1) (hp2 : Peels n2 f2) (k1 : (f1 t1).k = 6) (k2 : (f2 t2).k = 6)
    (o1 : EnumObj w ob1 t1 q1 vg1 cap1 vn1 vv1) (hi : i < q1) (ha : w.cell? ⟨ab, 0, none⟩ = some (.int .i64 (i : Int))) {ev : Value} (hev : w.cell? ⟨4, 0, none⟩ = some ev)
    {q2 vg2 cap2 : Nat} {vn2 : Nat → ByteArray} {vv2 : Nat → Int} (o2 : EnumObj w ob2 t2 q2 vg2 cap2 vn2 vv2) (s1 : (vn1 i).size = 2) (s2 : ∀ j, j < q2 → (vn2 j).size = 2) (hq2 : q2 ≤ 1000) (r : Option Nat)
    (hr : FoundAt vn2 q2 (vn1 i) r) :
    Calls Tryz.prog 60 #[objAt pt1 ob1 t1, .slice (some ⟨ab, 0, none⟩) 1 acap, objAt pt2 ob2 t2] w fun e w' => e = .returned (findV vg1 i vg2 ev r) ∧ Below w.heap.size w w' := by
  have le := World.block_lt_of_cell? w _ hev
  simp only at le
  have HE := Lib.hid (enumValue_any (acap := acap) h1 ht1 hp1 k1 o1 hi ha)
  have HA := Lib.hid (asEnum_yes h2 ht2 hp2 k2)
  obtain ⟨_, _, lv1, e1⟩ := o1
  obtain ⟨c3, lo2, lv2, e2⟩ := o2
  have x0 := (e1 i hi).1
  have E2 := Lib.hid e2
  have HR := Lib.hid hr
  clear h1 h2 hp1 hp2 k1 k2 ha e1 e2 hr
  go_enter Tryz.func60, Tryz.ntmps60
  go_wp2_with fail
  refine HE.out.mono ?_
  rintro e w9 ⟨rfl, rfl⟩
  go_wp2_with fail
  refine HA.out.mono ?_
  rintro e w9 ⟨rfl, rfl⟩
  go_wp2_with fail
  refine (essential_short _ _ s1).mono ?_
  rintro e w9 ⟨rfl, rfl⟩
  go_wp2_with fail
  obtain ⟨wA, rfl⟩ : ∃ wA : World, wA = w9 := ⟨_, rfl⟩
  obtain ⟨nm, hnm⟩ : ∃ nm, nm = vn1 i := ⟨_, rfl⟩
  rw [← hnm] at HR s1 x0 ⊢
  clear hnm
  go_loopg [6, 42] q2 (fun gk s6 s42 wr => ∃ k : Nat, k ≤ q2 ∧ q2 - k ≤ gk ∧ s6 = .pointer (some ⟨vg1, i * 2, none⟩) ∧ s42 = .int .i64 (k : Int) ∧ Below wA.heap.size wA wr ∧ ∀ x, x < k → vn2 x ≠ nm)
  case atStart => exact ⟨0, Nat.zero_le _, Nat.le_refl _, rfl, rfl, Below.refl _ _, fun x h => absurd h (Nat.not_lt_zero x)⟩
  case round =>
    obtain ⟨k, hkq, hgk, rfl, rfl, hb, hno⟩ := hrel
    have HNO := Lib.hid hno
    have HB := Lib.hid hb
    clear hno
    by_cases hlt : k < q2
    · have c3w := (hb.cell (p := ⟨ob2 (t2 + 1), 3, none⟩) lo2).trans c3
      have y0 := (hb.cell (p := ⟨vg2, k * 2, none⟩) lv2).trans (E2.out k hlt).1
      have y1 := (hb.cell (p := ⟨vg2, k * 2 + 1, none⟩) lv2).trans (E2.out k hlt).2
      have x0w := (hb.cell (p := ⟨vg1, i * 2, none⟩) lv1).trans x0
      have l1 := Nat.lt_of_lt_of_le lo2 hb.size
      have l2 := Nat.lt_of_lt_of_le lv2 hb.size
      have l3 := Nat.lt_of_lt_of_le lv1 hb.size
      obtain ⟨z, hz⟩ : ∃ z, z = IntKind.u64.wrap (vv2 k) := ⟨_, rfl⟩
      rw [← hz] at y1
      have s2k := s2 k hlt
      by_cases he : vn2 k = nm
      · have hrk : r = some k := by
          cases r with
          | none => exact absurd he (HR.out k hlt)
          | some j =>
            obtain ⟨h1, h2, h3⟩ := HR.out
            rcases Nat.lt_trichotomy j k with h | h | h
            · exact absurd h2 (HNO.out j h)
            · rw [h]
            · exact absurd he (h3 k h)
        subst hrk
        rw [he] at y0 s2k
        clear he hb hz
        go_wp2_with fail
        refine (essential_short _ _ s2k).mono ?_
        rintro e w8 ⟨rfl, rfl⟩
        go_wp2_with fail
        go_quiet (fail)
        go_wp2_with fail
        go_ret3
        exact ⟨rfl, below_drewN (HB.out.alloc HB.out.size _) _⟩
      · have hne : (!(vn2 k).toList == nm.toList) = true := by
          have hh : (vn2 k == nm) = false := by
            cases h : vn2 k == nm with
            | false => rfl
            | true => exact absurd ((MapKept.bytes_beq _ _).1 h) he
          rw [beq_toListBytes] at hh
          rw [hh]; rfl
        have Hne := Lib.hid he
        clear he hb hz
        go_wp2_with fail
        refine (essential_short _ _ s2k).mono ?_
        rintro e w8 ⟨rfl, rfl⟩
        go_wp2_with fail
        go_roundg (q2 - (k + 1))
        case measure => omega
        case rel => exact ⟨k + 1, hlt, Nat.le_refl _, rfl, by go_num, HB.out.alloc HB.out.size _, fun x hx => by
          by_cases h : x = k
          · rw [h]; exact Hne.out
          · exact HNO.out x (by omega)⟩
    · obtain rfl : k = q2 := by omega
      have hrk : r = none := by
        cases r with
        | none => rfl
        | some j => exact absurd HR.out.2.1 (HNO.out j HR.out.1)
      subst hrk
      have hevw := (hb.cell (p := ⟨4, 0, none⟩) le).trans hev
      have lew := Nat.lt_of_lt_of_le le hb.size
      clear hb
      go_wp2_with fail
      go_quiet (fail)
      go_wp2_with fail
      go_ret3
      exact ⟨rfl, below_drewN HB.out _⟩
end
#print axioms find_enum
end Go.Proofs.YtfilbgmbmlmdbaaGreatDoor
