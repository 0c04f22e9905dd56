/- The sizes of built types. Nothing is claimed here. -/
import Derived.Test.YtfilbgmbmlmdbaaGreatDoorRelD
namespace Go.Proofs.YtfilbgmbmlmdbaaGreatDoor
open Go.RowKit Go.MapKept
section
variable {w : World} {n1 og1 t1 n2 og2 t2 : Nat} {f1 f2 : Nat → RowD} {pt1 pt2 : Nat → TypeId} {ob1 ob2 : Nat → Nat}
theorem compat_any (h1 : Outs w n1 f1 og1 pt1 ob1) (h2 : Outs w n2 f2 og2 pt2 ob2) (ht1 : t1 < n1) (ht2 : t2 < n2) (hp1 : Peels n1 f1) (hp2 : Peels n2 f2)
    (c1 : Tight n1 f1 (und f1 t1)) (c2 : Tight n2 f2 (und f2 t2)) {ev : Value} (hev : w.cell? ⟨3, 0, none⟩ = some ev) :
    Calls Tryz.prog 45 #[objAt pt1 ob1 t1, objAt pt2 ob2 t2, .map none] w fun e w' => e = .returned (if (f1 (und f1 t1)).k = (f2 (und f2 t2)).k then .nilIface else ev) ∧ Below w.heap.size w w' := by
  by_cases hk : (f1 (und f1 t1)).k = (f2 (und f2 t2)).k
  · rw [if_pos hk]
    rcases c1.no with k1 | k1 | k1 | k1 | k1 | k1
    · exact compat_Int h1 h2 ht1 ht2 hp1 hp2 c1 c2 k1 (hk ▸ k1)
    · exact compat_Pointer h1 h2 ht1 ht2 hp1 hp2 c1 c2 k1 (hk ▸ k1)
    · exact compat_Array h1 h2 ht1 ht2 hp1 hp2 c1 c2 k1 (hk ▸ k1)
    · exact compat_Struct h1 h2 ht1 ht2 hp1 hp2 c1 c2 k1 (hk ▸ k1)
    · exact compat_Union h1 h2 ht1 ht2 hp1 hp2 c1 c2 k1 (hk ▸ k1)
    · exact compat_Enum h1 h2 ht1 ht2 hp1 hp2 c1 c2 k1 (hk ▸ k1)
  · rw [if_neg hk]
    refine (compat_differ h1 h2 ht1 ht2 hp1 hp2 c1 c2 rfl rfl hk hev).mono ?_
    rintro e w' ⟨rfl, rfl⟩
    exact ⟨rfl, Below.refl _ _⟩
set_option maxRecDepth 100000 in
set_option maxHeartbeats 4000000 in
theorem check_any (h1 : Outs w n1 f1 og1 pt1 ob1) (h2 : Outs w n2 f2 og2 pt2 ob2) (ht1 : t1 < n1) (ht2 : t2 < n2) (hp1 : Peels n1 f1) (hp2 : Peels n2 f2)
    (c1 : Tight n1 f1 (und f1 t1)) (c2 : Tight n2 f2 (und f2 t2)) {ev : Value} (hev : w.cell? ⟨3, 0, none⟩ = some ev) :
    Calls Tryz.prog 40 #[objAt pt1 ob1 t1, objAt pt2 ob2 t2] w fun e w' => e = .returned (if (f1 (und f1 t1)).k = (f2 (und f2 t2)).k then .nilIface else ev) ∧ Below w.heap.size w w' := by
  have H := compat_any h1 h2 ht1 ht2 hp1 hp2 c1 c2 hev
  obtain ⟨v, hv⟩ : ∃ v, (if (f1 (und f1 t1)).k = (f2 (und f2 t2)).k then Value.nilIface else ev) = v := ⟨_, rfl⟩
  rw [hv] at H ⊢
  have HH := Lib.hid H
  clear hv H c1 c2
  go_enter Tryz.func40, Tryz.ntmps40
  go_wp2_with fail
  refine HH.out.mono ?_
  rintro e w1 ⟨rfl, hb⟩
  go_wp2_with fail
  go_ret
  exact ⟨rfl, hb⟩
end
#print axioms check_any
end Go.Proofs.YtfilbgmbmlmdbaaGreatDoor
