/- Values of enumerations: the package's own search. Nothing is claimed here. -/
import Derived.Test.YtfilbgmbmlmdbaaGreatDoorAsN
import Derived.Test.YtfilbgmbmlmdbaaGreatDoorRelM
import Derived.Deep.DeepCutAuto
import Derived.Deep.CutBlock
namespace Go.Proofs.YtfilbgmbmlmdbaaGreatDoor
open Go.RowKit Go.MapKept

set_option maxRecDepth 100000 in
set_option maxHeartbeats 2000000 in
theorem lastIndex_short (w : World) (s : ByteArray) (hs : s.size = 2) : Calls Tryz.prog 88 #[.string s, .string ⟨#[95, 95, 95]⟩] w fun e w' => e = .returned (.int .i64 (-1)) ∧ w' = w := by
  have h2 : ((s.size : Nat) : Int) = 2 := by omega
  go_enter Tryz.func88, Tryz.ntmps88
  go_wp2_with fail
  go_ret
  exact ⟨rfl, rfl⟩
set_option maxRecDepth 100000 in
set_option maxHeartbeats 2000000 in
theorem essential_short (w : World) (s : ByteArray) (hs : s.size = 2) : Calls Tryz.prog 79 #[.string s] w fun e w' => e = .returned (.string s) ∧ w' = w := by
  have h0 : s.toList.isEmpty = false := by
    have hl : s.toList.length = 2 := by rw [ByteArray.toList_eq, Array.length_toList]; exact hs
    cases h : s.toList with
    | nil => rw [h] at hl; cases hl
    | cons _ _ => rfl
  go_enter Tryz.func79, Tryz.ntmps79
  go_wp2_with fail
  refine (lastIndex_short _ s hs).mono ?_
  rintro e w9 ⟨rfl, rfl⟩
  go_wp2_with fail
  go_ret
  exact ⟨rfl, rfl⟩
/-- The values of an enumeration, as the package has them. -/
def EnumObj (w : World) (ob : Nat → Nat) (i n vg cap : Nat) (vn : Nat → ByteArray) (vv : Nat → Int) : Prop :=
  w.cell? ⟨ob (i + 1), 3, none⟩ = some (.slice (some ⟨vg, 0, none⟩) n cap) ∧ ob (i + 1) < w.heap.size ∧ vg < w.heap.size ∧ ∀ j, j < n → w.cell? ⟨vg, j * 2, none⟩ = some (.string (vn j)) ∧ w.cell? ⟨vg, j * 2 + 1, none⟩ = some (.int .u64 (IntKind.u64.wrap (vv j)))
theorem PRow.uniq {ys : List Value} {j : Nat} {nm nm' : ByteArray} {o o' : Value} {a b v a' b' v' : Int} (h : PRow ys j nm o a b v) (h' : PRow ys j nm' o' a' b' v') : nm = nm' ∧ v = v' := by
  obtain ⟨h0, _, _, _, h4⟩ := h
  obtain ⟨k0, _, _, _, k4⟩ := h'
  rw [h0] at k0; rw [h4] at k4
  cases k0; cases k4
  exact ⟨rfl, rfl⟩
theorem Outs.enumObj {w : World} {n og : Nat} {f : Nat → RowD} {pt : Nat → TypeId} {ob : Nat → Nat} (h : Outs w n f og pt ob) {i : Nat} (hi : i < n) {nm : ByteArray} {sg : Bool} {q : Nat} {vn : Nat → ByteArray} {vv : Nat → Int} (r : RT f i (.enm nm sg q vn vv)) (hq : 1 ≤ q) :
    ∃ vg cap, EnumObj w ob i q vg cap vn vv := by
  obtain ⟨cs, cs0, ty, lo, hob, hbk, hful⟩ := h.full i hi
  cases r with
  | enm hk hn hs hl hqq hr =>
    rw [hk] at hful
    rw [hqq] at hful
    cases hful with
    | str hk' _ _ => omega
    | enm ho he =>
      obtain ⟨vg, cap, rfl, hvg⟩ := own_form ho (by omega)
      refine ⟨vg, cap, hbk.cell 3, hbk.lt, hvg, fun j hj => ?_⟩
      obtain ⟨nm', o, a, b, v, hp, x0, x1⟩ := he j hj
      obtain ⟨e1, e2⟩ := (hr j hj).uniq hp
      subst e1 e2
      rw [Nat.mul_comm] at x0 x1
      exact ⟨own_cell ho x0, own_cell ho x1⟩
theorem EnumObj.ck {w w' : World} {ob : Nat → Nat} {i n vg cap : Nat} {vn : Nat → ByteArray} {vv : Nat → Int} (h : EnumObj w ob i n vg cap vn vv) (hc : CellsKept w w') : EnumObj w' ob i n vg cap vn vv :=
  ⟨hc.cell h.1, Nat.lt_of_lt_of_le h.2.1 hc.size, Nat.lt_of_lt_of_le h.2.2.1 hc.size, fun j hj => ⟨hc.cell (h.2.2.2 j hj).1, hc.cell (h.2.2.2 j hj).2⟩⟩
section
variable {w : World} {n1 og1 t1 n2 og2 t2 : Nat} {f1 f2 : Nat → RowD} {pt1 pt2 : Nat → TypeId} {ob1 ob2 : Nat → Nat}
theorem asEnum_yes (h : Outs w n1 f1 og1 pt1 ob1) (ht : t1 < n1) (hp : Peels n1 f1) (hk : (f1 t1).k = 6) :
    Calls Tryz.prog 66 #[objAt pt1 ob1 t1] w fun e w' => e = .returned (.tuple #[.pointer (some ⟨ob1 (t1 + 1), 0, none⟩), .bool true]) ∧ w' = w := by
  refine (As_Enum w n1 og1 t1 f1 pt1 ob1 h ht (hp t1 ht)).mono ?_
  rintro e w' ⟨rfl, hs⟩
  have hr : asRow 6 f1 t1 = some t1 := if_pos hk
  rw [hr] at hs
  exact ⟨hs.2.2, rfl⟩
theorem asEnum_no (h : Outs w n1 f1 og1 pt1 ob1) (ht : t1 < n1) (hp : Peels n1 f1) (hk : (f1 t1).k ≠ 6) :
    Calls Tryz.prog 66 #[objAt pt1 ob1 t1] w fun e w' => e = .returned (.tuple #[.pointer none, .bool false]) ∧ w' = w := by
  refine (As_Enum w n1 og1 t1 f1 pt1 ob1 h ht (hp t1 ht)).mono ?_
  rintro e w' ⟨rfl, hs⟩
  have hr : asRow 6 f1 t1 = none := by
    unfold asRow
    rw [if_neg hk, if_neg (fun h => by omega)]
  rw [hr] at hs
  exact ⟨hs, rfl⟩
set_option linter.unusedSimpArgs false in
set_option maxRecDepth 100000 in
set_option maxHeartbeats 4000000 in
theorem enumValue_any (h : Outs w n1 f1 og1 pt1 ob1) (ht : t1 < n1) (hp : Peels n1 f1) (hk : (f1 t1).k = 6) {q vg cap i ab acap : Nat} {vn : Nat → ByteArray} {vv : Nat → Int} (ho : EnumObj w ob1 t1 q vg cap vn vv) (hi : i < q) (ha : w.cell? ⟨ab, 0, none⟩ = some (.int .i64 (i : Int))) :
    Calls Tryz.prog 78 #[.slice (some ⟨ab, 0, none⟩) 1 acap, objAt pt1 ob1 t1] w fun e w' => e = .returned (.tuple #[.pointer (some ⟨vg, i * 2, none⟩), .nilIface]) ∧ w' = w := by
  have la := World.block_lt_of_cell? w _ ha
  simp only at la
  obtain ⟨c3, l1, l2, _⟩ := ho
  have hiq : ¬ (q : Int) ≤ (i : Int) := by omega
  go_enter Tryz.func78, Tryz.ntmps78
  go_wp2_with fail
  refine (asEnum_yes h ht hp hk).mono ?_
  rintro e w9 ⟨rfl, rfl⟩
  clear h hp hk
  go_wp2_with fail
  go_ret2
  exact ⟨rfl, rfl⟩
end
#print axioms enumValue_any
end Go.Proofs.YtfilbgmbmlmdbaaGreatDoor
