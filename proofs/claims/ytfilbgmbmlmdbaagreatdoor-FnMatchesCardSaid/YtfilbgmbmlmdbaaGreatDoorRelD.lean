/- Whether types are compatible: the package's rule, nothing having been met. Nothing is claimed here. -/
import Derived.Test.YtfilbgmbmlmdbaaGreatDoorRelC
import Derived.Deep.DeepCutAuto
import Derived.Deep.CutBlock
namespace Go.Proofs.YtfilbgmbmlmdbaaGreatDoor
open Go.RowKit Go.MapKept

/-- A row behind names whose pointers and arrays are of ints. -/
structure Tight (n : Nat) (f : Nat → RowD) (r : Nat) : Prop where
  lt : r < n
  no : (f r).k = 1 ∨ (f r).k = 2 ∨ (f r).k = 3 ∨ (f r).k = 4 ∨ (f r).k = 5 ∨ (f r).k = 6
  ptr : (f r).k = 2 → ∃ j, j < n ∧ (f r).of = j + 1 ∧ (f j).k = 1
  arr : (f r).k = 3 → ∃ j x, j < n ∧ x < n ∧ (f r).of = j + 1 ∧ (f r).ix = x + 1 ∧ (f j).k = 1 ∧ (f x).k = 1
theorem pairNilNil (W : World) : (binOp .eql 157 (.map none) (.map none)).run Tryz.prog W = .ok (.bool true) W := by
  have h : ∀ d : Nat, (Op.equalIn (d + 1) 157 (.map none) (.map none)).run Tryz.prog W = .ok true W := fun d => by
    simp [Op.equalIn, run_underlying Tryz.underlying157, Result.andThen]
  have h2 : (Op.equal 157 (.map none) (.map none)).run Tryz.prog W = .ok true W := h 9999
  simp only [binOp]
  simp [h2]
theorem Met.drew {w : World} {mb : Nat} (h : Met w mb) : Met w.drew mb := by
  obtain ⟨m, hm, hk⟩ := h.mp
  exact ⟨⟨m, hm, fun x u hx => ⟨(hk x u hx).1.ck (CellsKept.below ((Below.refl _ _).drew)), (hk x u hx).2⟩⟩⟩
theorem ButMap.back {w w5 w10 : World} (h : ButMap (w.heap.size + 1) w5.drew w10) (hb : Below w.heap.size w w5) : Below w.heap.size w w10 :=
  ⟨h.os.trans hb.os, h.tape.trans hb.tape, h.output.trans hb.output, Nat.le_trans hb.size h.size, fun k hk => (h.block k (Nat.lt_of_lt_of_le hk hb.size) (by omega)).trans (hb.block k hk)⟩
theorem taStrict {T e : TypeId} (hu : Tryz.prog.underlying T = some (.pointer e)) (W : World) (v : Value) :
    (Instr.typeAssert (.iface T v) 77 T false).run Tryz.prog W = .ok v W := by
  simp [Instr.typeAssert, run_underlying hu, Result.andThen]
theorem Outs.kindOf {w : World} {n og : Nat} {f : Nat → RowD} {pt : Nat → TypeId} {ob : Nat → Nat} (h : Outs w n f og pt ob) {i : Nat} (hi : i < n) {k : Int} (hk : (f i).k = k) :
    (k = 1 → pt (i + 1) = 151) ∧ (k = 2 → pt (i + 1) = 164) ∧ (k = 3 → pt (i + 1) = 167) ∧ (k = 4 → pt (i + 1) = 162) ∧ (k = 5 → pt (i + 1) = 163) ∧ (k = 6 → pt (i + 1) = 144) := by
  obtain ⟨cs, cs0, ty, lo, hob, _, _⟩ := h.full i hi
  rcases hob.kinds with ⟨a, b⟩ | ⟨a, b⟩ | ⟨a, b⟩ | ⟨a, b⟩ | ⟨a, b⟩ | ⟨a, b⟩ | ⟨a, b⟩ | ⟨a, b⟩ <;> refine ⟨?_, ?_, ?_, ?_, ?_, ?_⟩ <;> intro e <;> first | exact b | omega
theorem Outs.ptrCell {w : World} {n og : Nat} {f : Nat → RowD} {pt : Nat → TypeId} {ob : Nat → Nat} (h : Outs w n f og pt ob) {i j : Nat} (hi : i < n) (hk : (f i).k = 2) (ho : (f i).of = j + 1) : w.cell? ⟨ob (i + 1), 0, none⟩ = some (objAt pt ob j) ∧ ob (i + 1) < w.heap.size := by
  obtain ⟨cs, cs0, ty, lo, hob, hbk, hful⟩ := h.full i hi
  have e : cs = #[.iface (pt (f i).of) (.pointer (some ⟨ob (f i).of, 0, none⟩))] := by
    generalize (f i).k = k at hful hk
    cases hful <;> first | rfl | omega
  rw [ho] at e
  subst e
  exact ⟨hbk.cell 0, hbk.lt⟩
theorem Outs.arrCell {w : World} {n og : Nat} {f : Nat → RowD} {pt : Nat → TypeId} {ob : Nat → Nat} (h : Outs w n f og pt ob) {i j x : Nat} (hi : i < n) (hk : (f i).k = 3) (ho : (f i).of = j + 1) (hx : (f i).ix = x + 1) :
    w.cell? ⟨ob (i + 1), 0, none⟩ = some (objAt pt ob x) ∧ w.cell? ⟨ob (i + 1), 1, none⟩ = some (objAt pt ob j) ∧ w.cell? ⟨ob (i + 1), 2, none⟩ = some (.int .u32 (f i).sz) ∧ ob (i + 1) < w.heap.size := by
  obtain ⟨cs, cs0, ty, lo, hob, hbk, hful⟩ := h.full i hi
  have e : cs = #[.iface (pt (f i).ix) (.pointer (some ⟨ob (f i).ix, 0, none⟩)), .iface (pt (f i).of) (.pointer (some ⟨ob (f i).of, 0, none⟩)), .int .u32 (f i).sz] := by
    generalize (f i).k = k at hful hk
    cases hful <;> first | rfl | omega
  rw [ho, hx] at e
  subst e
  exact ⟨hbk.cell 0, hbk.cell 1, hbk.cell 2, hbk.lt⟩
section
variable {w : World} {n1 og1 t1 n2 og2 t2 : Nat} {f1 f2 : Nat → RowD} {pt1 pt2 : Nat → TypeId} {ob1 ob2 : Nat → Nat}

set_option linter.unusedSimpArgs false in
set_option maxRecDepth 100000 in
set_option maxHeartbeats 4000000 in
theorem compat_differ (h1 : Outs w n1 f1 og1 pt1 ob1) (h2 : Outs w n2 f2 og2 pt2 ob2) (ht1 : t1 < n1) (ht2 : t2 < n2) (hp1 : Peels n1 f1) (hp2 : Peels n2 f2)
    (c1 : Tight n1 f1 (und f1 t1)) (c2 : Tight n2 f2 (und f2 t2)) {a b : Int} (k1 : (f1 (und f1 t1)).k = a) (k2 : (f2 (und f2 t2)).k = b) (hab : a ≠ b) {ev : Value} (hev : w.cell? ⟨3, 0, none⟩ = some ev) :
    Calls Tryz.prog 45 #[objAt pt1 ob1 t1, objAt pt2 ob2 t2, .map none] w fun e w' => e = .returned ev ∧ w' = w := by
  have hne : ((a + 1) != (b + 1)) = true := by simp; omega
  have hlt3 : 3 < w.heap.size := World.block_lt_of_cell? w _ hev
  go_enter Tryz.func45, Tryz.ntmps45
  go_wp2_with fail
  refine (underlying_any w n1 og1 t1 f1 pt1 ob1 h1 ht1 hp1).mono ?_
  rintro e w9 ⟨rfl, rfl⟩
  go_wp2_with fail
  refine (underlying_any w9 n2 og2 t2 f2 pt2 ob2 h2 ht2 hp2).mono ?_
  rintro e w8 ⟨rfl, rfl⟩
  obtain ⟨r1, hr1⟩ : ∃ r, r = und f1 t1 := ⟨_, rfl⟩
  obtain ⟨r2, hr2⟩ : ∃ r, r = und f2 t2 := ⟨_, rfl⟩
  rw [← hr1] at c1 k1 ⊢
  rw [← hr2] at c2 k2 ⊢
  clear hr1 hr2
  go_wp2_with fail
  refine (zzKind_any w8 n1 og1 r1 f1 pt1 ob1 h1 c1.lt).mono ?_
  rintro e w7 ⟨rfl, rfl⟩
  rw [k1]
  go_wp2_with fail
  refine (zzKind_any w7 n2 og2 r2 f2 pt2 ob2 h2 c2.lt).mono ?_
  rintro e w6 ⟨rfl, rfl⟩
  rw [k2]
  obtain ⟨a2, ha2⟩ : ∃ x, x = a + 1 := ⟨_, rfl⟩
  obtain ⟨b2, hb2⟩ : ∃ x, x = b + 1 := ⟨_, rfl⟩
  rw [← ha2] at hne ⊢
  rw [← hb2] at hne ⊢
  clear ha2 hb2 k1 k2 hab
  go_wp2_with fail
  go_ret
  exact ⟨rfl, rfl⟩

set_option linter.unusedSimpArgs false in
set_option maxRecDepth 100000 in
set_option maxHeartbeats 4000000 in
theorem compat_Int (h1 : Outs w n1 f1 og1 pt1 ob1) (h2 : Outs w n2 f2 og2 pt2 ob2) (ht1 : t1 < n1) (ht2 : t2 < n2) (hp1 : Peels n1 f1) (hp2 : Peels n2 f2)
    (c1 : Tight n1 f1 (und f1 t1)) (c2 : Tight n2 f2 (und f2 t2)) (k1 : (f1 (und f1 t1)).k = 1) (k2 : (f2 (und f2 t2)).k = 1) :
    Calls Tryz.prog 45 #[objAt pt1 ob1 t1, objAt pt2 ob2 t2, .map none] w fun e w' => e = .returned .nilIface ∧ Below w.heap.size w w' := by
  have hmm := @run_makeMap Tryz.prog
  have hnn := pairNilNil
  have hz : ∀ W : World, (zeroValue 99).run Tryz.prog W = .ok (.agg #[]) W := fun W => by simp
  have hzw := hz w
  have K := pair_keys w
  have hkey := h1.pairKey h2 c1.lt c2.lt
  have hpt := (h1.kindOf c1.lt k1).1 rfl
  go_enter Tryz.func45, Tryz.ntmps45
  go_wp2_with fail
  refine (underlying_any w n1 og1 t1 f1 pt1 ob1 h1 ht1 hp1).mono ?_
  rintro e w9 ⟨rfl, rfl⟩
  go_wp2_with fail
  refine (underlying_any w9 n2 og2 t2 f2 pt2 ob2 h2 ht2 hp2).mono ?_
  rintro e w8 ⟨rfl, rfl⟩
  obtain ⟨r1, hr1⟩ : ∃ r, r = und f1 t1 := ⟨_, rfl⟩
  obtain ⟨r2, hr2⟩ : ∃ r, r = und f2 t2 := ⟨_, rfl⟩
  rw [← hr1] at c1 k1 hkey hpt ⊢
  rw [← hr2] at c2 k2 hkey ⊢
  clear hr1 hr2
  go_wp2_with fail
  refine (zzKind_any w8 n1 og1 r1 f1 pt1 ob1 h1 c1.lt).mono ?_
  rintro e w7 ⟨rfl, rfl⟩
  rw [k1]
  go_wp2_with fail
  refine (zzKind_any w7 n2 og2 r2 f2 pt2 ob2 h2 c2.lt).mono ?_
  rintro e w6 ⟨rfl, rfl⟩
  rw [k2]
  have hb := (Below.refl w6.heap.size w6).alloc (Nat.le_refl _) (.cells #[] 99)
  have hb2 := hb.alloc hb.size (.map #[] 0)
  have hck := CellsKept.below hb2
  have K2 := pair_keys ((w6.alloc (.cells #[] 99)).alloc (.map #[] 0))
  have hmp2 : IsMapOf ((w6.alloc (.cells #[] 99)).alloc (.map #[] 0)) (w6.heap.size + 1) (fun _ => none) := by
    have := IsMapOf.made (w6.alloc (.cells #[] 99))
    simpa using this
  have hmG2 : ∀ x u, (fun _ : Value => (none : Option Value)) x = some u → PairKey ((w6.alloc (.cells #[] 99)).alloc (.map #[] 0)) x := fun x u h => by cases h
  have hkey2 := hkey.ck hck
  have hat : (fun _ : Value => (none : Option Value)) (.agg #[objAt pt1 ob1 r1, objAt pt2 ob2 r2]) = none := rfl
  have a0 := taNoVoid
  have a1 := taNoInt
  have a4 := taNoStruct
  have a5 := taNoUnion
  have a6 := taNoEnum
  have a7 := taNoFwd
  have y1 := @ta_yes _ _ Tryz.underlying151
  clear hat
  simp only [objAt, hpt] at hkey hkey2 ⊢
  go_wp2_with (first
    | (at_lookup; refine wpList_look_nil rfl _ _ rfl Tryz.underlying157 hzw K rfl _ rfl hkey ?_)
    | (at_mapUpdate; refine wpList_store rfl _ _ _ rfl Tryz.underlying157 K2 rfl hmp2 hmG2 _ (.agg #[]) rfl rfl hkey2 rfl ?_; intro w5 hg5 hs5 hm5))
  go_ret
  exact ⟨rfl, hb2.grown hg5 hb2.size (fun x hx => by cases hx; simp)⟩

set_option linter.unusedSimpArgs false in
set_option maxRecDepth 100000 in
set_option maxHeartbeats 4000000 in
theorem compat_Struct (h1 : Outs w n1 f1 og1 pt1 ob1) (h2 : Outs w n2 f2 og2 pt2 ob2) (ht1 : t1 < n1) (ht2 : t2 < n2) (hp1 : Peels n1 f1) (hp2 : Peels n2 f2)
    (c1 : Tight n1 f1 (und f1 t1)) (c2 : Tight n2 f2 (und f2 t2)) (k1 : (f1 (und f1 t1)).k = 4) (k2 : (f2 (und f2 t2)).k = 4) :
    Calls Tryz.prog 45 #[objAt pt1 ob1 t1, objAt pt2 ob2 t2, .map none] w fun e w' => e = .returned .nilIface ∧ Below w.heap.size w w' := by
  have hmm := @run_makeMap Tryz.prog
  have hnn := pairNilNil
  have hz : ∀ W : World, (zeroValue 99).run Tryz.prog W = .ok (.agg #[]) W := fun W => by simp
  have hzw := hz w
  have K := pair_keys w
  have hkey := h1.pairKey h2 c1.lt c2.lt
  have hpt := (h1.kindOf c1.lt k1).2.2.2.1 rfl
  go_enter Tryz.func45, Tryz.ntmps45
  go_wp2_with fail
  refine (underlying_any w n1 og1 t1 f1 pt1 ob1 h1 ht1 hp1).mono ?_
  rintro e w9 ⟨rfl, rfl⟩
  go_wp2_with fail
  refine (underlying_any w9 n2 og2 t2 f2 pt2 ob2 h2 ht2 hp2).mono ?_
  rintro e w8 ⟨rfl, rfl⟩
  obtain ⟨r1, hr1⟩ : ∃ r, r = und f1 t1 := ⟨_, rfl⟩
  obtain ⟨r2, hr2⟩ : ∃ r, r = und f2 t2 := ⟨_, rfl⟩
  rw [← hr1] at c1 k1 hkey hpt ⊢
  rw [← hr2] at c2 k2 hkey ⊢
  clear hr1 hr2
  go_wp2_with fail
  refine (zzKind_any w8 n1 og1 r1 f1 pt1 ob1 h1 c1.lt).mono ?_
  rintro e w7 ⟨rfl, rfl⟩
  rw [k1]
  go_wp2_with fail
  refine (zzKind_any w7 n2 og2 r2 f2 pt2 ob2 h2 c2.lt).mono ?_
  rintro e w6 ⟨rfl, rfl⟩
  rw [k2]
  have hb := (Below.refl w6.heap.size w6).alloc (Nat.le_refl _) (.cells #[] 99)
  have hb2 := hb.alloc hb.size (.map #[] 0)
  have hck := CellsKept.below hb2
  have K2 := pair_keys ((w6.alloc (.cells #[] 99)).alloc (.map #[] 0))
  have hmp2 : IsMapOf ((w6.alloc (.cells #[] 99)).alloc (.map #[] 0)) (w6.heap.size + 1) (fun _ => none) := by
    have := IsMapOf.made (w6.alloc (.cells #[] 99))
    simpa using this
  have hmG2 : ∀ x u, (fun _ : Value => (none : Option Value)) x = some u → PairKey ((w6.alloc (.cells #[] 99)).alloc (.map #[] 0)) x := fun x u h => by cases h
  have hkey2 := hkey.ck hck
  have hat : (fun _ : Value => (none : Option Value)) (.agg #[objAt pt1 ob1 r1, objAt pt2 ob2 r2]) = none := rfl
  have a0 := taNoVoid
  have a1 := taNoInt
  have a4 := taNoStruct
  have a5 := taNoUnion
  have a6 := taNoEnum
  have a7 := taNoFwd
  have y1 := @ta_yes _ _ Tryz.underlying162
  clear hat
  simp only [objAt, hpt] at hkey hkey2 ⊢
  go_wp2_with (first
    | (at_lookup; refine wpList_look_nil rfl _ _ rfl Tryz.underlying157 hzw K rfl _ rfl hkey ?_)
    | (at_mapUpdate; refine wpList_store rfl _ _ _ rfl Tryz.underlying157 K2 rfl hmp2 hmG2 _ (.agg #[]) rfl rfl hkey2 rfl ?_; intro w5 hg5 hs5 hm5))
  go_ret
  exact ⟨rfl, hb2.grown hg5 hb2.size (fun x hx => by cases hx; simp)⟩

set_option linter.unusedSimpArgs false in
set_option maxRecDepth 100000 in
set_option maxHeartbeats 4000000 in
theorem compat_Union (h1 : Outs w n1 f1 og1 pt1 ob1) (h2 : Outs w n2 f2 og2 pt2 ob2) (ht1 : t1 < n1) (ht2 : t2 < n2) (hp1 : Peels n1 f1) (hp2 : Peels n2 f2)
    (c1 : Tight n1 f1 (und f1 t1)) (c2 : Tight n2 f2 (und f2 t2)) (k1 : (f1 (und f1 t1)).k = 5) (k2 : (f2 (und f2 t2)).k = 5) :
    Calls Tryz.prog 45 #[objAt pt1 ob1 t1, objAt pt2 ob2 t2, .map none] w fun e w' => e = .returned .nilIface ∧ Below w.heap.size w w' := by
  have hmm := @run_makeMap Tryz.prog
  have hnn := pairNilNil
  have hz : ∀ W : World, (zeroValue 99).run Tryz.prog W = .ok (.agg #[]) W := fun W => by simp
  have hzw := hz w
  have K := pair_keys w
  have hkey := h1.pairKey h2 c1.lt c2.lt
  have hpt := (h1.kindOf c1.lt k1).2.2.2.2.1 rfl
  go_enter Tryz.func45, Tryz.ntmps45
  go_wp2_with fail
  refine (underlying_any w n1 og1 t1 f1 pt1 ob1 h1 ht1 hp1).mono ?_
  rintro e w9 ⟨rfl, rfl⟩
  go_wp2_with fail
  refine (underlying_any w9 n2 og2 t2 f2 pt2 ob2 h2 ht2 hp2).mono ?_
  rintro e w8 ⟨rfl, rfl⟩
  obtain ⟨r1, hr1⟩ : ∃ r, r = und f1 t1 := ⟨_, rfl⟩
  obtain ⟨r2, hr2⟩ : ∃ r, r = und f2 t2 := ⟨_, rfl⟩
  rw [← hr1] at c1 k1 hkey hpt ⊢
  rw [← hr2] at c2 k2 hkey ⊢
  clear hr1 hr2
  go_wp2_with fail
  refine (zzKind_any w8 n1 og1 r1 f1 pt1 ob1 h1 c1.lt).mono ?_
  rintro e w7 ⟨rfl, rfl⟩
  rw [k1]
  go_wp2_with fail
  refine (zzKind_any w7 n2 og2 r2 f2 pt2 ob2 h2 c2.lt).mono ?_
  rintro e w6 ⟨rfl, rfl⟩
  rw [k2]
  have hb := (Below.refl w6.heap.size w6).alloc (Nat.le_refl _) (.cells #[] 99)
  have hb2 := hb.alloc hb.size (.map #[] 0)
  have hck := CellsKept.below hb2
  have K2 := pair_keys ((w6.alloc (.cells #[] 99)).alloc (.map #[] 0))
  have hmp2 : IsMapOf ((w6.alloc (.cells #[] 99)).alloc (.map #[] 0)) (w6.heap.size + 1) (fun _ => none) := by
    have := IsMapOf.made (w6.alloc (.cells #[] 99))
    simpa using this
  have hmG2 : ∀ x u, (fun _ : Value => (none : Option Value)) x = some u → PairKey ((w6.alloc (.cells #[] 99)).alloc (.map #[] 0)) x := fun x u h => by cases h
  have hkey2 := hkey.ck hck
  have hat : (fun _ : Value => (none : Option Value)) (.agg #[objAt pt1 ob1 r1, objAt pt2 ob2 r2]) = none := rfl
  have a0 := taNoVoid
  have a1 := taNoInt
  have a4 := taNoStruct
  have a5 := taNoUnion
  have a6 := taNoEnum
  have a7 := taNoFwd
  have y1 := @ta_yes _ _ Tryz.underlying163
  clear hat
  simp only [objAt, hpt] at hkey hkey2 ⊢
  go_wp2_with (first
    | (at_lookup; refine wpList_look_nil rfl _ _ rfl Tryz.underlying157 hzw K rfl _ rfl hkey ?_)
    | (at_mapUpdate; refine wpList_store rfl _ _ _ rfl Tryz.underlying157 K2 rfl hmp2 hmG2 _ (.agg #[]) rfl rfl hkey2 rfl ?_; intro w5 hg5 hs5 hm5))
  go_ret
  exact ⟨rfl, hb2.grown hg5 hb2.size (fun x hx => by cases hx; simp)⟩

set_option linter.unusedSimpArgs false in
set_option maxRecDepth 100000 in
set_option maxHeartbeats 4000000 in
theorem compat_Enum (h1 : Outs w n1 f1 og1 pt1 ob1) (h2 : Outs w n2 f2 og2 pt2 ob2) (ht1 : t1 < n1) (ht2 : t2 < n2) (hp1 : Peels n1 f1) (hp2 : Peels n2 f2)
    (c1 : Tight n1 f1 (und f1 t1)) (c2 : Tight n2 f2 (und f2 t2)) (k1 : (f1 (und f1 t1)).k = 6) (k2 : (f2 (und f2 t2)).k = 6) :
    Calls Tryz.prog 45 #[objAt pt1 ob1 t1, objAt pt2 ob2 t2, .map none] w fun e w' => e = .returned .nilIface ∧ Below w.heap.size w w' := by
  have hmm := @run_makeMap Tryz.prog
  have hnn := pairNilNil
  have hz : ∀ W : World, (zeroValue 99).run Tryz.prog W = .ok (.agg #[]) W := fun W => by simp
  have hzw := hz w
  have K := pair_keys w
  have hkey := h1.pairKey h2 c1.lt c2.lt
  have hpt := (h1.kindOf c1.lt k1).2.2.2.2.2 rfl
  go_enter Tryz.func45, Tryz.ntmps45
  go_wp2_with fail
  refine (underlying_any w n1 og1 t1 f1 pt1 ob1 h1 ht1 hp1).mono ?_
  rintro e w9 ⟨rfl, rfl⟩
  go_wp2_with fail
  refine (underlying_any w9 n2 og2 t2 f2 pt2 ob2 h2 ht2 hp2).mono ?_
  rintro e w8 ⟨rfl, rfl⟩
  obtain ⟨r1, hr1⟩ : ∃ r, r = und f1 t1 := ⟨_, rfl⟩
  obtain ⟨r2, hr2⟩ : ∃ r, r = und f2 t2 := ⟨_, rfl⟩
  rw [← hr1] at c1 k1 hkey hpt ⊢
  rw [← hr2] at c2 k2 hkey ⊢
  clear hr1 hr2
  go_wp2_with fail
  refine (zzKind_any w8 n1 og1 r1 f1 pt1 ob1 h1 c1.lt).mono ?_
  rintro e w7 ⟨rfl, rfl⟩
  rw [k1]
  go_wp2_with fail
  refine (zzKind_any w7 n2 og2 r2 f2 pt2 ob2 h2 c2.lt).mono ?_
  rintro e w6 ⟨rfl, rfl⟩
  rw [k2]
  have hb := (Below.refl w6.heap.size w6).alloc (Nat.le_refl _) (.cells #[] 99)
  have hb2 := hb.alloc hb.size (.map #[] 0)
  have hck := CellsKept.below hb2
  have K2 := pair_keys ((w6.alloc (.cells #[] 99)).alloc (.map #[] 0))
  have hmp2 : IsMapOf ((w6.alloc (.cells #[] 99)).alloc (.map #[] 0)) (w6.heap.size + 1) (fun _ => none) := by
    have := IsMapOf.made (w6.alloc (.cells #[] 99))
    simpa using this
  have hmG2 : ∀ x u, (fun _ : Value => (none : Option Value)) x = some u → PairKey ((w6.alloc (.cells #[] 99)).alloc (.map #[] 0)) x := fun x u h => by cases h
  have hkey2 := hkey.ck hck
  have hat : (fun _ : Value => (none : Option Value)) (.agg #[objAt pt1 ob1 r1, objAt pt2 ob2 r2]) = none := rfl
  have a0 := taNoVoid
  have a1 := taNoInt
  have a4 := taNoStruct
  have a5 := taNoUnion
  have a6 := taNoEnum
  have a7 := taNoFwd
  have y1 := @ta_yes _ _ Tryz.underlying144
  clear hat
  simp only [objAt, hpt] at hkey hkey2 ⊢
  go_wp2_with (first
    | (at_lookup; refine wpList_look_nil rfl _ _ rfl Tryz.underlying157 hzw K rfl _ rfl hkey ?_)
    | (at_mapUpdate; refine wpList_store rfl _ _ _ rfl Tryz.underlying157 K2 rfl hmp2 hmG2 _ (.agg #[]) rfl rfl hkey2 rfl ?_; intro w5 hg5 hs5 hm5))
  go_ret
  exact ⟨rfl, hb2.grown hg5 hb2.size (fun x hx => by cases hx; simp)⟩

set_option linter.unusedSimpArgs false in
set_option maxRecDepth 100000 in
set_option maxHeartbeats 4000000 in
theorem compat_Pointer (h1 : Outs w n1 f1 og1 pt1 ob1) (h2 : Outs w n2 f2 og2 pt2 ob2) (ht1 : t1 < n1) (ht2 : t2 < n2) (hp1 : Peels n1 f1) (hp2 : Peels n2 f2)
    (c1 : Tight n1 f1 (und f1 t1)) (c2 : Tight n2 f2 (und f2 t2)) (k1 : (f1 (und f1 t1)).k = 2) (k2 : (f2 (und f2 t2)).k = 2) :
    Calls Tryz.prog 45 #[objAt pt1 ob1 t1, objAt pt2 ob2 t2, .map none] w fun e w' => e = .returned .nilIface ∧ Below w.heap.size w w' := by
  obtain ⟨j1, hj1, ho1, hkj1⟩ := c1.ptr k1
  obtain ⟨j2, hj2, ho2, hkj2⟩ := c2.ptr k2
  have hmm := @run_makeMap Tryz.prog
  have hnn := pairNilNil
  have hz : ∀ W : World, (zeroValue 99).run Tryz.prog W = .ok (.agg #[]) W := fun W => by simp
  have hzw := hz w
  have K := pair_keys w
  have hkey := h1.pairKey h2 c1.lt c2.lt
  have hpt := (h1.kindOf c1.lt k1).2.1 rfl
  have hpt2 := (h2.kindOf c2.lt k2).2.1 rfl
  go_enter Tryz.func45, Tryz.ntmps45
  go_wp2_with fail
  refine (underlying_any w n1 og1 t1 f1 pt1 ob1 h1 ht1 hp1).mono ?_
  rintro e w9 ⟨rfl, rfl⟩
  go_wp2_with fail
  refine (underlying_any w9 n2 og2 t2 f2 pt2 ob2 h2 ht2 hp2).mono ?_
  rintro e w8 ⟨rfl, rfl⟩
  obtain ⟨r1, hr1⟩ : ∃ r, r = und f1 t1 := ⟨_, rfl⟩
  obtain ⟨r2, hr2⟩ : ∃ r, r = und f2 t2 := ⟨_, rfl⟩
  rw [← hr1] at c1 k1 hkey hpt ho1 ⊢
  rw [← hr2] at c2 k2 hkey hpt2 ho2 ⊢
  clear hr1 hr2
  go_wp2_with fail
  refine (zzKind_any w8 n1 og1 r1 f1 pt1 ob1 h1 c1.lt).mono ?_
  rintro e w7 ⟨rfl, rfl⟩
  rw [k1]
  go_wp2_with fail
  refine (zzKind_any w7 n2 og2 r2 f2 pt2 ob2 h2 c2.lt).mono ?_
  rintro e w6 ⟨rfl, rfl⟩
  rw [k2]
  have hb := (Below.refl w6.heap.size w6).alloc (Nat.le_refl _) (.cells #[] 99)
  have hb2 := hb.alloc hb.size (.map #[] 0)
  have hck := CellsKept.below hb2
  have K2 := pair_keys ((w6.alloc (.cells #[] 99)).alloc (.map #[] 0))
  have hmp2 : IsMapOf ((w6.alloc (.cells #[] 99)).alloc (.map #[] 0)) (w6.heap.size + 1) (fun _ => none) := by
    have := IsMapOf.made (w6.alloc (.cells #[] 99))
    simpa using this
  have hk0 : ∀ x u, (fun _ : Value => (none : Option Value)) x = some u → PairKey ((w6.alloc (.cells #[] 99)).alloc (.map #[] 0)) x ∧ u = .agg #[] := fun x u h => by cases h
  have hmG2 : ∀ x u, (fun _ : Value => (none : Option Value)) x = some u → PairKey ((w6.alloc (.cells #[] 99)).alloc (.map #[] 0)) x := fun x u h => by cases h
  have hkey2 := hkey.ck hck
  have hmet2 : Met ((w6.alloc (.cells #[] 99)).alloc (.map #[] 0)) (w6.heap.size + 1) := ⟨⟨_, hmp2, hk0⟩⟩
  have a0 := taNoVoid
  have a1 := taNoInt
  have a4 := taNoStruct
  have a5 := taNoUnion
  have a6 := taNoEnum
  have a7 := taNoFwd
  have y1 := @ta_yes _ _ Tryz.underlying164
  have y2 := @taStrict _ _ Tryz.underlying164
  simp only [objAt, hpt, hpt2] at hkey hkey2 ⊢
  go_wp2_with (first
    | (at_lookup; refine wpList_look_nil rfl _ _ rfl Tryz.underlying157 hzw K rfl _ rfl hkey ?_)
    | (at_mapUpdate; refine wpList_store rfl _ _ _ rfl Tryz.underlying157 K2 rfl hmp2 hmG2 _ (.agg #[]) rfl rfl hkey2 rfl ?_; intro w5 hg5 hs5 hm5))
  have hb5 : Below w6.heap.size w6 w5 := hb2.grown hg5 hb2.size (fun x hx => by cases hx; simp)
  have hck5 := CellsKept.below hb5
  have hmet5 : Met w5 (w6.heap.size + 1) := Met.more hk0 hkey2 (((ButMap.refl _ _).store hg5).cells hmet2) hm5
  have o1 := h1.ck hck5
  have o2 := h2.ck hck5
  obtain ⟨p1, l1⟩ := o1.ptrCell c1.lt k1 ho1
  obtain ⟨p2, l2⟩ := o2.ptrCell c2.lt k2 ho2
  have Hmet5 := Lib.hid hmet5
  have Hb5 := Lib.hid hb5
  have Ho1 := Lib.hid o1
  have Ho2 := Lib.hid o2
  have Hp1 := Lib.hid hp1
  have Hp2 := Lib.hid hp2
  clear hm5 hg5 hs5 hmp2 hk0 hmG2 hkey hkey2 K K2 hmet2 hck hb hb2 hmet5 hb5 hck5 o1 o2 h1 h2 hp1 hp2 k1 k2 ho1 ho2 c1 c2 hpt hpt2 a0 a1 a4 a5 a6 a7 y1 y2 hz hzw hmm hnn
  go_still_tail 9, (by kernel_rfl)
  go_wp2_with fail
  have hbd : Below w5.heap.size w5 w5.drew := (Below.refl _ _).drew
  refine (compat_ints w5.drew (Ho1.out.ck (CellsKept.below hbd)) (Ho2.out.ck (CellsKept.below hbd)) hj1 hj2 Hp1.out Hp2.out hkj1 hkj2 (Hmet5.out.drew)).mono ?_
  rintro e w10 ⟨rfl, hmetX, hbm⟩
  go_wp2_with fail
  go_ret
  exact ⟨rfl, hbm.back Hb5.out⟩

set_option linter.unusedSimpArgs false in
set_option maxRecDepth 100000 in
set_option maxHeartbeats 4000000 in
theorem compat_Array (h1 : Outs w n1 f1 og1 pt1 ob1) (h2 : Outs w n2 f2 og2 pt2 ob2) (ht1 : t1 < n1) (ht2 : t2 < n2) (hp1 : Peels n1 f1) (hp2 : Peels n2 f2)
    (c1 : Tight n1 f1 (und f1 t1)) (c2 : Tight n2 f2 (und f2 t2)) (k1 : (f1 (und f1 t1)).k = 3) (k2 : (f2 (und f2 t2)).k = 3) :
    Calls Tryz.prog 45 #[objAt pt1 ob1 t1, objAt pt2 ob2 t2, .map none] w fun e w' => e = .returned .nilIface ∧ Below w.heap.size w w' := by
  obtain ⟨j1, x1, hj1, hx1, ho1, hi1, hkj1, hkx1⟩ := c1.arr k1
  obtain ⟨j2, x2, hj2, hx2, ho2, hi2, hkj2, hkx2⟩ := c2.arr k2
  have hmm := @run_makeMap Tryz.prog
  have hnn := pairNilNil
  have hz : ∀ W : World, (zeroValue 99).run Tryz.prog W = .ok (.agg #[]) W := fun W => by simp
  have hzw := hz w
  have K := pair_keys w
  have hkey := h1.pairKey h2 c1.lt c2.lt
  have hpt := (h1.kindOf c1.lt k1).2.2.1 rfl
  have hpt2 := (h2.kindOf c2.lt k2).2.2.1 rfl
  go_enter Tryz.func45, Tryz.ntmps45
  go_wp2_with fail
  refine (underlying_any w n1 og1 t1 f1 pt1 ob1 h1 ht1 hp1).mono ?_
  rintro e w9 ⟨rfl, rfl⟩
  go_wp2_with fail
  refine (underlying_any w9 n2 og2 t2 f2 pt2 ob2 h2 ht2 hp2).mono ?_
  rintro e w8 ⟨rfl, rfl⟩
  obtain ⟨r1, hr1⟩ : ∃ r, r = und f1 t1 := ⟨_, rfl⟩
  obtain ⟨r2, hr2⟩ : ∃ r, r = und f2 t2 := ⟨_, rfl⟩
  rw [← hr1] at c1 k1 hkey hpt ho1 hi1 ⊢
  rw [← hr2] at c2 k2 hkey hpt2 ho2 hi2 ⊢
  clear hr1 hr2
  go_wp2_with fail
  refine (zzKind_any w8 n1 og1 r1 f1 pt1 ob1 h1 c1.lt).mono ?_
  rintro e w7 ⟨rfl, rfl⟩
  rw [k1]
  go_wp2_with fail
  refine (zzKind_any w7 n2 og2 r2 f2 pt2 ob2 h2 c2.lt).mono ?_
  rintro e w6 ⟨rfl, rfl⟩
  rw [k2]
  have hb := (Below.refl w6.heap.size w6).alloc (Nat.le_refl _) (.cells #[] 99)
  have hb2 := hb.alloc hb.size (.map #[] 0)
  have hck := CellsKept.below hb2
  have K2 := pair_keys ((w6.alloc (.cells #[] 99)).alloc (.map #[] 0))
  have hmp2 : IsMapOf ((w6.alloc (.cells #[] 99)).alloc (.map #[] 0)) (w6.heap.size + 1) (fun _ => none) := by
    have := IsMapOf.made (w6.alloc (.cells #[] 99))
    simpa using this
  have hk0 : ∀ x u, (fun _ : Value => (none : Option Value)) x = some u → PairKey ((w6.alloc (.cells #[] 99)).alloc (.map #[] 0)) x ∧ u = .agg #[] := fun x u h => by cases h
  have hmG2 : ∀ x u, (fun _ : Value => (none : Option Value)) x = some u → PairKey ((w6.alloc (.cells #[] 99)).alloc (.map #[] 0)) x := fun x u h => by cases h
  have hkey2 := hkey.ck hck
  have hmet2 : Met ((w6.alloc (.cells #[] 99)).alloc (.map #[] 0)) (w6.heap.size + 1) := ⟨⟨_, hmp2, hk0⟩⟩
  have a0 := taNoVoid
  have a1 := taNoInt
  have a4 := taNoStruct
  have a5 := taNoUnion
  have a6 := taNoEnum
  have a9 := taNoPointer
  have a7 := taNoFwd
  have y1 := @ta_yes _ _ Tryz.underlying167
  have y2 := @taStrict _ _ Tryz.underlying167
  simp only [objAt, hpt, hpt2] at hkey hkey2 ⊢
  go_wp2_with (first
    | (at_lookup; refine wpList_look_nil rfl _ _ rfl Tryz.underlying157 hzw K rfl _ rfl hkey ?_)
    | (at_mapUpdate; refine wpList_store rfl _ _ _ rfl Tryz.underlying157 K2 rfl hmp2 hmG2 _ (.agg #[]) rfl rfl hkey2 rfl ?_; intro w5 hg5 hs5 hm5))
  have hb5 : Below w6.heap.size w6 w5 := hb2.grown hg5 hb2.size (fun x hx => by cases hx; simp)
  have hck5 := CellsKept.below hb5
  have hmet5 : Met w5 (w6.heap.size + 1) := Met.more hk0 hkey2 (((ButMap.refl _ _).store hg5).cells hmet2) hm5
  have o1 := h1.ck hck5
  have o2 := h2.ck hck5
  obtain ⟨p1, q1, _, l1⟩ := o1.arrCell c1.lt k1 ho1 hi1
  obtain ⟨p2, q2, _, l2⟩ := o2.arrCell c2.lt k2 ho2 hi2
  have Hmet5 := Lib.hid hmet5
  have Hb5 := Lib.hid hb5
  have Ho1 := Lib.hid o1
  have Ho2 := Lib.hid o2
  have Hp1 := Lib.hid hp1
  have Hp2 := Lib.hid hp2
  clear hm5 hg5 hs5 hmp2 hk0 hmG2 hkey hkey2 K K2 hmet2 hck hb hb2 hmet5 hb5 hck5 o1 o2 h1 h2 hp1 hp2 k1 k2 ho1 ho2 hi1 hi2 c1 c2 hpt hpt2 a0 a1 a4 a5 a6 a7 a9 y1 y2 hz hzw hmm hnn
  go_still_tail 9, (by kernel_rfl)
  go_wp2_with fail
  have hbd : Below w5.heap.size w5 w5.drew := (Below.refl _ _).drew
  have o1d := Ho1.out.ck (CellsKept.below hbd)
  have o2d := Ho2.out.ck (CellsKept.below hbd)
  refine (compat_ints w5.drew o1d o2d hx1 hx2 Hp1.out Hp2.out hkx1 hkx2 (Hmet5.out.drew)).mono ?_
  rintro e w10 ⟨rfl, hmetX, hbm⟩
  have hb10 := hbm.back Hb5.out
  have hck10 := hbm.cells (Hmet5.out.drew)
  have o1e := o1d.ck hck10
  have o2e := o2d.ck hck10
  have q1e : w10.cell? ⟨ob1 (r1 + 1), 1, none⟩ = some (objAt pt1 ob1 j1) := hck10.cell q1
  have q2e : w10.cell? ⟨ob2 (r2 + 1), 1, none⟩ = some (objAt pt2 ob2 j2) := hck10.cell q2
  have l1e : ob1 (r1 + 1) < w10.heap.size := Nat.lt_of_lt_of_le l1 hck10.size
  have l2e : ob2 (r2 + 1) < w10.heap.size := Nat.lt_of_lt_of_le l2 hck10.size
  have HmetX := Lib.hid hmetX
  have Hb10 := Lib.hid hb10
  have Ho1e := Lib.hid o1e
  have Ho2e := Lib.hid o2e
  clear o1d o2d o1e o2e hmetX hbm hb10 hck10 p1 p2 q1 q2 l1 l2 hbd
  go_wp2_with fail
  go_still_tail 9, (by kernel_rfl)
  go_wp2_with fail
  have hbd : Below w10.heap.size w10 w10.drew := (Below.refl _ _).drew
  refine (compat_ints w10.drew (Ho1e.out.ck (CellsKept.below hbd)) (Ho2e.out.ck (CellsKept.below hbd)) hj1 hj2 Hp1.out Hp2.out hkj1 hkj2 (HmetX.out.drew)).mono ?_
  rintro e w11 ⟨rfl, hmetY, hbm⟩
  go_wp2_with fail
  go_ret
  exact ⟨rfl, hbm.back Hb10.out⟩

end
#print axioms compat_differ
#print axioms compat_Int
end Go.Proofs.YtfilbgmbmlmdbaaGreatDoor
