/- What stands behind names, and sizes: contracts of the set's own methods. -/
import Derived.Test.YtfilbgmbmlmdbaaGreatDoorZ01
import Derived.Deep.DeepCutAuto
import Derived.Deep.CutBlock
import Derived.Deep.RegionHeld3
set_option linter.unusedSimpArgs false
set_option linter.unusedVariables false
set_option maxRecDepth 1000000
set_option maxHeartbeats 16000000
namespace Go.Proofs.YtfilbgmbmlmdbaaGreatDoor
open Go.RowKit
theorem behind_any (D : Nat → Prop) (b : Nat) (t : Ty) (w : World) (r : Rep w D b t) :
  Calls Tryz.prog 13 #[.pointer (some ⟨b, 0, none⟩)] w fun e w' => ∃ c, e = .returned (.pointer (some ⟨c, 0, none⟩)) ∧ Rep w D c t.behind ∧ w = w' := by
 go_enter Tryz.func13, Tryz.ntmps13
 go_wp2
 go_loopg [0] t.layers (fun k v wr => ∃ c u, v = .pointer (some ⟨c, 0, none⟩) ∧ Rep w D c u ∧ u.behind = t.behind ∧ u.layers ≤ k ∧ w = wr)
 case atStart => exact ⟨b, t, rfl, r, rfl, Nat.le_refl _, rfl⟩
 case round =>
  obtain ⟨c, u, rfl, ru, hu, hk, rfl⟩ := hrel
  rcases ru.peel with ⟨k, h0, -, k8, k10, hb⟩ | ⟨c2, u2, h0, h4, r2, hb, hl⟩ | ⟨c2, u2, h0, h4, r2, hb, hl⟩
  ·have Hu := Lib.hid (hb.symm.trans hu); clear hu hb
   go_wp2
   go_ret
   exact ⟨c, rfl, Hu.out ▸ ru, rfl⟩
  all_goals
   have Hu := Lib.hid (hb.symm.trans hu); clear hu hb
   have hlt : u2.layers < gk := by omega
   clear hl
   go_wp2
   go_roundg u2.layers
   case measure => exact hlt
   case rel => exact ⟨c2, u2, rfl, r2, Hu.out, Nat.le_refl _, rfl⟩
theorem Ty.bytes_behind (t : Ty) : t.behind.bytes = t.bytes := by
 induction t with
 | named nm t ih => exact ih
 | cst t ih => exact ih
 | _ => rfl
theorem Rep.flat {w : World} {D : Nat → Prop} {b : Nat} {t : Ty} (r : Rep w D b t) (hb : t.behind = t) (ha : ∀ n u, t ≠ .arr n u) :
  (w.cell? ⟨b, 0, none⟩ = some (.int .i64 2) ∧ (8 : Int) = t.bytes) ∨
  ∃ k z : Int, w.cell? ⟨b, 0, none⟩ = some (.int .i64 k) ∧ (k == 2) = false ∧ (k == 3) = false ∧ w.cell? ⟨b, 2, none⟩ = some (.int .i64 z) ∧ z = t.bytes := by
 cases r with
 | int h hd => exact .inr ⟨1, _, h.cell 0, rfl, rfl, h.cell 2, rfl⟩
 | ptr h hd _ => exact .inl ⟨h.cell 0, rfl⟩
 | arr h hd _ => exact absurd rfl (ha _ _)
 | @named b c nm t h hd r => exact absurd (congrArg Ty.layers hb) (by
   have : ∀ t : Ty, t.behind.layers = 0 := fun t => by induction t with | named nm t ih => exact ih | cst t ih => exact ih | _ => rfl
   rw [this]; simp [Ty.layers])
 | @cst b c t h hd r => exact absurd (congrArg Ty.layers hb) (by
   have : ∀ t : Ty, t.behind.layers = 0 := fun t => by induction t with | named nm t ih => exact ih | cst t ih => exact ih | _ => rfl
   rw [this]; simp [Ty.layers])
 | enm h hd _ _ _ => exact .inr ⟨6, 4, h.cell 0, rfl, rfl, h.cell 2, rfl⟩
 | @comp b sz n un nm pn py pa pb v xs pc h hd _ _ _ _ => cases un <;> exact .inr ⟨_, _, h.cell 0, rfl, rfl, h.cell 2, rfl⟩
theorem Ty.behind_behind (t : Ty) : t.behind.behind = t.behind := by
 induction t with
 | named nm t ih => exact ih
 | cst t ih => exact ih
 | _ => rfl
theorem bytes_flat (D : Nat → Prop) (b : Nat) (t : Ty) (w : World) (r : Rep w D b t) (ha : ∀ n u, t.behind ≠ .arr n u) :
  Calls Tryz.prog 12 #[.pointer (some ⟨b, 0, none⟩)] w fun e w' => e = .returned (.int .i64 t.bytes) ∧ w = w' := by
 go_enter Tryz.func12, Tryz.ntmps12
 go_wp2_with fail
 refine (behind_any D b t w r).mono ?_
 rintro e w' ⟨c, rfl, rc, rfl⟩
 rcases rc.flat t.behind_behind ha with ⟨h0, hz⟩ | ⟨k, z, h0, k2, k3, h2, hz⟩
 ·have Hz := Lib.hid (hz.trans (congrArg Int.ofNat t.bytes_behind)); clear hz
  go_wp2_with fail
  go_ret
  exact ⟨by rw [Hz.out]; rfl, rfl⟩
 ·have Hz := Lib.hid (hz.trans (congrArg Int.ofNat t.bytes_behind)); clear hz
  go_wp2_with fail
  go_ret
  exact ⟨by rw [Hz.out]; rfl, rfl⟩
def Flat (t : Ty) : Prop := ∀ n u, t.behind = .arr n u → (∀ m x, u.behind ≠ .arr m x) ∧ n * u.bytes < 4611686018427387904
theorem Rep.elem {w : World} {D : Nat → Prop} {b n : Nat} {u : Ty} (r : Rep w D b (.arr n u)) :
  ∃ c, w.cell? ⟨b, 0, none⟩ = some (.int .i64 3) ∧ w.cell? ⟨b, 2, none⟩ = some (.int .i64 n) ∧ w.cell? ⟨b, 4, none⟩ = some (.pointer (some ⟨c, 0, none⟩)) ∧ Rep w D c u := by
 cases r with
 | arr h hd r => exact ⟨_, h.cell 0, h.cell 2, h.cell 4, r⟩
theorem Rep.drewN {w : World} {D : Nat → Prop} {b : Nat} {t : Ty} (r : Rep w D b t) (n : Nat) : Rep (w.drewN n) D b t := Rep.keep (w := w) (w' := w.drewN n) (D := D) (D' := D) (fun _ _ _ => rfl) (fun _ _ h => h) r
theorem bytes_any (D : Nat → Prop) (b : Nat) (t : Ty) (w : World) (r : Rep w D b t) (hf : Flat t) :
  Calls Tryz.prog 12 #[.pointer (some ⟨b, 0, none⟩)] w fun e w' => e = .returned (.int .i64 t.bytes) ∧ ∃ nd, w' = w.drewN nd := by
 by_cases ha : ∃ n u, t.behind = .arr n u
 ·obtain ⟨n, u, hb⟩ := ha
  obtain ⟨hu, hlt⟩ := hf n u hb
  have Hb : Hid (t.bytes = n * u.bytes) := Lib.hid (by rw [← t.bytes_behind, hb]; rfl)
  go_enter Tryz.func12, Tryz.ntmps12
  go_wp2_with fail
  refine (behind_any D b t w r).mono ?_
  rintro e w' ⟨c, rfl, rc, rfl⟩
  rw [hb] at rc
  clear hb
  obtain ⟨c2, h0, h2, h4, r2⟩ := rc.elem
  go_wp2_with fail
  go_quiet ((go_at_call 12; exact Calls.quiet_of_same ((bytes_flat D c2 u _ (r2.drewN _) hu).mono fun _ _ ⟨a, b⟩ => ⟨a, b.symm⟩)))
  go_wp2_with fail
  go_ret
  exact ⟨by rw [Hb.out]; exact congrArg (fun z => Ending.returned (Value.int .i64 z)) (Int.natCast_mul _ _).symm, nq, rfl⟩
 ·refine (bytes_flat D b t w r (fun n u h => ha ⟨n, u, h⟩)).mono ?_
  rintro e w' ⟨h1, h2⟩
  exact ⟨h1, 0, h2.symm⟩
theorem intOf_int (z : Int) (w : World) (h0 : 0 ≤ z) (h1 : z < 4294967296) : Calls Tryz.prog 23 #[.int .u32 z] w (Made w IntT) := by
 obtain ⟨n, rfl⟩ := Int.eq_ofNat_of_zero_le h0
 exact intOf_any n w (by omega)
theorem enumOf_int (z : Int) (w : World) (h0 : 0 ≤ z) (h1 : z < 4294967296) : Calls Tryz.prog 19 #[.int .u32 z] w (Made w EnmT) := by
 obtain ⟨n, rfl⟩ := Int.eq_ofNat_of_zero_le h0
 exact enumOf_any n w (by omega)
theorem Rep.alloc {w : World} {D : Nat → Prop} {b : Nat} {t : Ty} (r : Rep w D b t) (o : Obj) : Rep (w.alloc o) D b t :=
 Rep.keep (w := w) (w' := w.alloc o) (D := D) (D' := D) (fun k hk _ => Below.heap_alloc w o k hk) (fun _ _ h => h) r
section
variable {W w1 : World} {b B : Nat} {t : Ty} {F G : Ty → Prop} (r : Rep w1 (· < W.heap.size) b t) (hb : Below W.heap.size W w1) (hB : B = w1.heap.size)
include r hb hB
theorem made_ptr (hg : G (.ptr t)) : Made W G (.returned (.pointer (some ⟨B, 0, none⟩))) (w1.alloc (.cells #[.int .i64 2, .string ⟨#[]⟩, .int .i64 0, .bool false, .pointer (some ⟨b, 0, none⟩), .slice none 0 0] 38)) := by
 subst hB
 exact ⟨_, _, rfl, .ptr (Blk.new _ _ _) (fun h => Nat.not_lt.2 hb.size h) (r.alloc _), hg, hb.alloc hb.size _⟩
theorem made_arr {n : Nat} {z : Int} (hz : z = n) (hg : G (.arr n t)) : Made W G (.returned (.pointer (some ⟨B, 0, none⟩))) (w1.alloc (.cells #[.int .i64 3, .string ⟨#[]⟩, .int .i64 z, .bool false, .pointer (some ⟨b, 0, none⟩), .slice none 0 0] 38)) := by
 subst hB; subst hz
 exact ⟨_, _, rfl, .arr (Blk.new _ _ _) (fun h => Nat.not_lt.2 hb.size h) (r.alloc _), hg, hb.alloc hb.size _⟩
theorem made_named {nm : ByteArray} (hg : G (.named nm t)) : Made W G (.returned (.pointer (some ⟨B, 0, none⟩))) (w1.alloc (.cells #[.int .i64 8, .string nm, .int .i64 0, .bool false, .pointer (some ⟨b, 0, none⟩), .slice none 0 0] 38)) := by
 subst hB
 exact ⟨_, _, rfl, .named (Blk.new _ _ _) (fun h => Nat.not_lt.2 hb.size h) (r.alloc _), hg, hb.alloc hb.size _⟩
theorem made_cst (hg : G (.cst t)) : Made W G (.returned (.pointer (some ⟨B, 0, none⟩))) (w1.alloc (.cells #[.int .i64 10, .string ⟨#[]⟩, .int .i64 0, .bool false, .pointer (some ⟨b, 0, none⟩), .slice none 0 0] 38)) := by
 subst hB
 exact ⟨_, _, rfl, .cst (Blk.new _ _ _) (fun h => Nat.not_lt.2 hb.size h) (r.alloc _), hg, hb.alloc hb.size _⟩
end
def TypeC (d : Int) (F : Ty → Prop) : Prop := ∀ (z : Int) (w : World), 0 ≤ z → z < 4294967296 → Calls Tryz.prog 17 #[.int .u32 z, .int .i64 d] w (Made w F)
theorem typeOf_leaf (d : Int) (F : Ty → Prop) (hF : ∀ t, Leaf t → F t) (z : Int) (w : World) (h0 : 0 ≤ z) (h1 : z < 4294967296) (hz : z % 9 ≠ 8) :
  Calls Tryz.prog 17 #[.int .u32 z, .int .i64 d] w (Made w F) := by
 rcases (by omega : z % 9 = 0 ∨ z % 9 = 1 ∨ z % 9 = 2 ∨ z % 9 = 3 ∨ z % 9 = 4 ∨ z % 9 = 5 ∨ z % 9 = 6 ∨ z % 9 = 7) with h | h | h | h | h | h | h | h
 ·clear hz
  go_enter Tryz.func17, Tryz.ntmps17
  go_wp2_with fail
  refine (intOf_int _ _ (by omega) (by omega)).mono ?_
  rintro e w1 ⟨b, t, rfl, r, ht, hb⟩
  go_wp2_with fail
  go_ret
  exact ⟨_, _, rfl, r, hF _ (.int ht), hb⟩
 ·clear hz
  go_enter Tryz.func17, Tryz.ntmps17
  go_wp2_with fail
  refine (intOf_int _ _ (by omega) (by omega)).mono ?_
  rintro e w1 ⟨b, t, rfl, r, ht, hb⟩
  go_wp2_with fail
  go_ret
  exact ⟨_, _, rfl, r, hF _ (.int ht), hb⟩
 ·clear hz
  go_enter Tryz.func17, Tryz.ntmps17
  go_wp2_with fail
  refine (intOf_int _ _ (by omega) (by omega)).mono ?_
  rintro e w1 ⟨b, t, rfl, r, ht, hb⟩
  go_wp2_with fail
  go_ret
  exact ⟨_, _, rfl, r, hF _ (.int ht), hb⟩
 ·clear hz
  go_enter Tryz.func17, Tryz.ntmps17
  go_wp2_with fail
  refine (intOf_int _ _ (by omega) (by omega)).mono ?_
  rintro e w1 ⟨b, t, rfl, r, ht, hb⟩
  go_wp2_with fail
  go_ret
  exact made_ptr r hb (by simp) (hF _ (.ptr ht))
 ·clear hz
  go_enter Tryz.func17, Tryz.ntmps17
  go_wp2_with fail
  refine (enumOf_int _ _ (by omega) (by omega)).mono ?_
  rintro e w1 ⟨b, t, rfl, r, ht, hb⟩
  go_wp2_with fail
  go_ret
  exact ⟨_, _, rfl, r, hF _ (.enm ht), hb⟩
 ·clear hz
  go_enter Tryz.func17, Tryz.ntmps17
  go_wp2_with fail
  refine (intOf_int _ _ (by omega) (by omega)).mono ?_
  rintro e w1 ⟨b, t, rfl, r, ht, hb⟩
  go_wp2_with fail
  go_ret
  exact made_arr r hb (by simp) (n := (1 + z / 16 % 4).toNat) (by omega) (hF _ (.arr ht (by omega) (by omega)))
 ·clear hz
  go_enter Tryz.func17, Tryz.ntmps17
  go_wp2_with fail
  refine (intOf_int _ _ (by omega) (by omega)).mono ?_
  rintro e w1 ⟨b, t, rfl, r, ht, hb⟩
  go_wp2_with fail
  go_ret
  exact made_named r hb (by simp) (hF _ (.named ht (by decide)))
 ·clear hz
  go_enter Tryz.func17, Tryz.ntmps17
  go_wp2_with fail
  refine (intOf_int _ _ (by omega) (by omega)).mono ?_
  rintro e w1 ⟨b, t, rfl, r, ht, hb⟩
  go_wp2_with fail
  go_ret
  exact made_cst r hb (by simp) (hF _ (.cst ht))
def U32s (w : World) (v : Value) (n : Nat) : Prop :=
 ∃ a cap, v = .slice a n cap ∧ (n = 0 ∨ ∃ b off, a = some ⟨b, off, none⟩ ∧ b < w.heap.size ∧ ∀ i, i < n → ∃ z : Int, w.cell? ⟨b, off + i, none⟩ = some (.int .u32 z) ∧ 0 ≤ z ∧ z < 4294967296)
def AnonT (F : Ty → Prop) (M : Nat) (y : Ty) : Prop :=
 ∃ un sz n pn py pa pb, y = .comp un ⟨#[]⟩ sz n pn py pa pb ∧ 1 ≤ n ∧ n ≤ 2 ∧ sz ≤ M + 16 ∧ ∀ i, i < n → (pn i).size = 1 ∧ F (py i) ∧ BitsOk (py i) (pa i) (pb i) ∧ pa i ≤ 8 * M + 64
def PartOk (F : Ty → Prop) (M : Nat) (nm : ByteArray) (y : Ty) (a b : Nat) : Prop :=
 (nm.size = 1 ∧ F y ∧ BitsOk y a b) ∨ (nm.size = 0 ∧ AnonT F M y ∧ b = 0 ∧ a % 64 = 0)
def StrT (F : Ty → Prop) (M mx : Nat) (nm : ByteArray) (t : Ty) : Prop :=
 ∃ sz n pn py pa pb, t = .comp false nm sz n pn py pa pb ∧ n ≤ 20 ∧ sz ≤ mx ∧ ∀ i, i < n → PartOk F M (pn i) (py i) (pa i) (pb i) ∧ pa i ≤ 8 * mx
structure StrSt (W : World) (Dx : Nat → Prop) (F : Ty → Prop) (M A : Nat) (tb : Nat) (nm : ByteArray) (k : Nat) (v : Value) (xs : List Value) (pn : Nat → ByteArray) (py : Nat → Ty) (pa pb pc : Nat → Nat) (w : World) : Prop where
 blk : Blk w tb #[.int .i64 4, .string nm, .int .i64 0, .bool false, .pointer none, v] 38
 own : w.ownsRow (tb + 1) 56 5 v k xs
 row : ∀ i, i < k → PRow xs i (pn i) (.pointer (some ⟨pc i, 0, none⟩)) (pa i) (pb i) 0
 rep : ∀ i, i < k → Rep w (fun b => Dx b ∨ b = tb ∨ v.ownBlock = some b) (pc i) (py i)
 dx : ∀ b, Dx b → b < tb
 ok : ∀ i, i < k → PartOk F M (pn i) (py i) (pa i) (pb i) ∧ pa i ≤ A
 old : Below W.heap.size W w
 lo : W.heap.size ≤ tb
theorem wp_world {P : Program} {c : Code} {Q : Exit → Act → World → Prop} {a : Act} {w : World} (Φ : World → Prop) (h : Φ w) (k : ∀ w', Φ w' → c.wp P Q a w') : c.wp P Q a w := k w h
theorem Blk.drewN {w : World} {b : Nat} {c : Array Value} {t : TypeId} (h : Blk w b c t) (n : Nat) : Blk (w.drewN n) b c t := h
section
variable {W wr w1 w3 : World} {Dx : Nat → Prop} {F : Ty → Prop} {M A tb : Nat} {nm : ByteArray} {k : Nat} {v : Value} {xs : List Value} {pn : Nat → ByteArray} {py : Nat → Ty} {pa pb pc : Nat → Nat}
theorem StrSt.move (st : StrSt W Dx F M A tb nm k v xs pn py pa pb pc wr) (hb : Below wr.heap.size wr w3) : StrSt W Dx F M A tb nm k v xs pn py pa pb pc w3 :=
 ⟨st.blk.old hb, ownsRow_of st.own fun g _ hl => hb.block g hl, st.row, fun i hi => (st.rep i hi).old hb, st.dx, st.ok, st.old.trans (hb.mono st.old.size), st.lo⟩
structure StrPre (W : World) (Dx : Nat → Prop) (F : Ty → Prop) (M A : Nat) (tb : Nat) (nm : ByteArray) (k : Nat) (v : Value) (xs : List Value) (pn : Nat → ByteArray) (py : Nat → Ty) (pa pb pc : Nat → Nat) (lo pk : Nat) (qn : ByteArray) (qc : Nat) (qy : Ty) (qa qb : Nat) (w : World) : Prop where
 st : StrSt W Dx F M A tb nm k v xs pn py pa pb pc w
 blk : Blk w pk #[.string qn, .pointer (some ⟨qc, 0, none⟩), .int .i64 qa, .int .i64 qb, .int .i64 0] 56
 rep : Rep w (fun b => Dx b ∨ b = tb ∨ v.ownBlock = some b) qc qy
 ok : PartOk F M qn qy qa qb
 lo : lo ≤ w.heap.size
theorem StrPre.of {qn : ByteArray} {qc : Nat} {qy : Ty} {qa qb : Nat} (st : StrSt W Dx F M A tb nm k v xs pn py pa pb pc wr) (hb0 : Below wr.heap.size wr w1) (r0 : Rep w1 (· < wr.heap.size) qc qy)
  (hb : Below w1.heap.size w1 w3) (hblk : Blk w3 w1.heap.size #[.string qn, .pointer (some ⟨qc, 0, none⟩), .int .i64 qa, .int .i64 qb, .int .i64 0] 56) (hok : PartOk F M qn qy qa qb) :
  StrPre W Dx F M A tb nm k v xs pn py pa pb pc wr.heap.size w1.heap.size qn qc qy qa qb w3 := by
 refine ⟨st.move (hb0.trans (hb.mono hb0.size)), hblk, ?_, hok, Nat.le_trans hb0.size hb.size⟩
 refine (r0.old hb).weaken fun b hbl hx => ?_
 have h1 := st.blk.lt
 rcases hx with hx | hx | hx
 ·have := st.dx b hx; omega
 ·omega
 ·exact (st.own.lt b hx).2
theorem StrPre.step {lo pk qc qa qb A' : Nat} {qn : ByteArray} {qy : Ty} (pre : StrPre W Dx F M A tb nm k v xs pn py pa pb pc lo pk qn qc qy qa qb w3) {o : Obj} {w4 : World} {g cap : Nat}
  (ha : Appended (w3.alloc o).drew (tb + 1) 56 5 v k 1 xs [.string qn, .pointer (some ⟨qc, 0, none⟩), .int .i64 qa, .int .i64 qb, .int .i64 0] g cap w4) (hA : A ≤ A') (hq : qa ≤ A') :
  StrSt W Dx F M A' tb nm (k + 1) (.slice (some ⟨g, 0, none⟩) (k + 1) cap) (xs ++ [.string qn, .pointer (some ⟨qc, 0, none⟩), .int .i64 qa, .int .i64 qb, .int .i64 0])
   (upd pn k qn) (upd py k qy) (upd pa k qa) (upd pb k qb) (upd pc k qc) (w4.setCell ⟨tb, 5, none⟩ (.slice (some ⟨g, 0, none⟩) (k + 1) cap)) := by
 have st := pre.st
 have hg : tb + 1 ≤ g := (ha.1.lt g rfl).1
 have hl := st.own.1
 have hbl := st.blk.lt
 have ow : (w3.alloc o).drew.ownsRow (tb + 1) 56 5 v k xs := st.own.alloc o
 have hT : Blk (w4.setCell ⟨tb, 5, none⟩ (.slice (some ⟨g, 0, none⟩) (k + 1) cap)) tb _ 38 := (Blk.app (b := tb) (st.blk.alloc o).drew ha ow (Nat.lt_succ_self _)).set 5 (.slice (some ⟨g, 0, none⟩) (k + 1) cap)
 have hnew : ∀ {c : Nat} {y : Ty}, Rep w3 (fun b => Dx b ∨ b = tb ∨ v.ownBlock = some b) c y → Rep (w4.setCell ⟨tb, 5, none⟩ (.slice (some ⟨g, 0, none⟩) (k + 1) cap)) (fun b => Dx b ∨ b = tb ∨ (Value.slice (some ⟨g, 0, none⟩) (k + 1) cap).ownBlock = some b) c y := by
  intro c y r
  refine r.keep (fun b hb hd => ?_) (fun b hb hx => ?_)
  ·rw [Below.heap_setCell _ _ _ _ (fun x => hd (.inr (.inl x)))]
   rw [ha.2.1.block b (by show b < (w3.alloc o).heap.size; simp; omega) (fun x => hd (.inr (.inr x.symm)))]
   exact Below.heap_alloc w3 o b hb
  ·rcases hx with hx | hx | hx
   ·exact .inl hx
   ·exact .inr (.inl hx)
   ·have hgb : g = b := by simpa [Value.ownBlock] using hx
    rcases ha.2.2.1 with h | h
    ·exact .inr (.inr (by rw [h, hgb]))
    ·exfalso
     have : g = w3.heap.size + 1 := by rw [h]; show (w3.alloc o).heap.size = _; simp
     omega
 refine ⟨hT, ownsRow_setCell ha.1 (fun x => by simp [Value.ownBlock] at x; omega) _, ?_, ?_, st.dx, ?_, ?_, st.lo⟩
 ·intro i hi
  by_cases h : i < k
  ·rw [upd_other _ _ h, upd_other _ _ h, upd_other _ _ h, upd_other _ _ h]; exact (st.row i h).left hl h
  ·obtain rfl : i = k := by omega
   rw [upd_same, upd_same, upd_same, upd_same]; exact PRow.last _ _ _ _ _ hl
 ·intro i hi
  by_cases h : i < k
  ·rw [upd_other _ _ h, upd_other _ _ h]; exact hnew (st.rep i h)
  ·obtain rfl : i = k := by omega
   rw [upd_same, upd_same]; exact hnew pre.rep
 ·intro i hi
  by_cases h : i < k
  ·rw [upd_other _ _ h, upd_other _ _ h, upd_other _ _ h, upd_other _ _ h]; exact ⟨(st.ok i h).1, Nat.le_trans (st.ok i h).2 hA⟩
  ·obtain rfl : i = k := by omega
   rw [upd_same, upd_same, upd_same, upd_same]; exact ⟨pre.ok, hq⟩
 ·have hs := st.old.size
  exact (ha.below ow ((st.old.alloc hs _).drew) (by show _ ≤ (w3.alloc o).heap.size; simp; omega) (by have := st.lo; omega)).setCell st.lo _
theorem StrSt.start (W : World) (nm : ByteArray) (Dx : Nat → Prop) (hDx : ∀ b, Dx b → b < W.heap.size) (F : Ty → Prop) (M : Nat) (pn : Nat → ByteArray) (py : Nat → Ty) (pa pb pc : Nat → Nat) :
  StrSt W Dx F M 0 W.heap.size nm 0 (.slice none 0 0) [] pn py pa pb pc (W.alloc (.cells #[.int .i64 4, .string nm, .int .i64 0, .bool false, .pointer none, .slice none 0 0] 38)) :=
 ⟨Blk.new _ _ _, World.ownsRow_nil _ _ _ _, fun i h => by omega, fun i h => by omega, hDx, fun i h => by omega, (Below.refl _ _).alloc (Nat.le_refl _) _, Nat.le_refl _⟩
theorem StrSt.done {mx : Nat} {z : Int} (st : StrSt W Dx F M A tb nm k v xs pn py pa pb pc wr) (hk : k ≤ 20) (hz : z = ((A + 63) / 64 * 8 : Nat)) (hm : (A + 63) / 64 * 8 ≤ mx) :
  ∃ t, Rep (wr.setCell ⟨tb, 2, none⟩ (.int .i64 z)) Dx tb t ∧ StrT F M mx nm t ∧ Below W.heap.size W (wr.setCell ⟨tb, 2, none⟩ (.int .i64 z)) := by
 subst hz
 have hown : ∀ g, v.ownBlock = some g → tb + 1 ≤ g := fun g hg => (st.own.lt g hg).1
 refine ⟨_, .comp (un := false) (v := v) (xs := xs) (pc := pc) (pn := pn) (py := py) (pa := pa) (pb := pb) (n := k) (st.blk.set 2 _) (fun hx => by have := st.dx tb hx; omega) ?_ ?_ st.row ?_, ⟨_, _, _, _, _, _, rfl, hk, hm, ?_⟩, st.old.setCell st.lo _⟩
 ·exact ownsRow_base (ownsRow_setCell st.own (fun x => by have := hown tb x.symm; omega) _) (Nat.zero_le _)
 ·exact fun g hg hx => by have := hown g hg; have := st.dx g hx; omega
 ·intro i hi
  exact (st.rep i hi).keep (fun b hb hd => Below.heap_setCell _ _ _ _ (fun x => hd (.inr (.inl x)))) (fun b _ hx => .inl hx)
 ·intro i hi
  exact ⟨(st.ok i hi).1, by have := (st.ok i hi).2; omega⟩
theorem StrSt.made {mx : Nat} {z : Int} (st : StrSt W (· < W.heap.size) F M A tb nm k v xs pn py pa pb pc wr) (hk : k ≤ 20) (hz : z = ((A + 63) / 64 * 8 : Nat)) (hm : (A + 63) / 64 * 8 ≤ mx) :
  Made W (StrT F M mx nm) (.returned (.pointer (some ⟨tb, 0, none⟩))) (wr.setCell ⟨tb, 2, none⟩ (.int .i64 z)) := by
 obtain ⟨t, h1, h2, h3⟩ := st.done hk hz hm
 exact ⟨tb, t, rfl, h1, h2, h3⟩
end
theorem slice_one (ns : ByteArray) (nx : Nat) (h : nx < ns.size) (w : World) :
  (Instr.slice 9 (.string ns) (some (.int .i64 (nx : Int))) (some (.int .i64 ((nx : Int) + 1))) none).run Tryz.prog w = .ok (.string (ns.extract nx (nx + 1))) w := by
 have := run_slice_string (P := Tryz.prog) (w := w) 9 ns .i64 .i64 (nx : Int) ((nx : Int) + 1) Tryz.underlying9 (by omega) (by omega) (by omega)
 rw [this]
 exact congrArg (fun x => Result.ok (Value.string x) w) (by rw [Int.toNat_natCast]; exact congrArg _ (by omega))
theorem Rep.kinds {w : World} {D : Nat → Prop} {b : Nat} {t : Ty} (r : Rep w D b t) :
  (∃ sz sg nm, t = .int sz sg nm ∧ w.cell? ⟨b, 0, none⟩ = some (.int .i64 1)) ∨
  (∃ n u c, t = .arr n u ∧ w.cell? ⟨b, 0, none⟩ = some (.int .i64 3) ∧ w.cell? ⟨b, 4, none⟩ = some (.pointer (some ⟨c, 0, none⟩)) ∧ Rep w D c u) ∨
  (∃ k : Int, w.cell? ⟨b, 0, none⟩ = some (.int .i64 k) ∧ (k == 1) = false ∧ (k == 3) = false) := by
 cases r with
 | int h hd => exact .inl ⟨_, _, _, rfl, h.cell 0⟩
 | ptr h hd _ => exact .inr (.inr ⟨2, h.cell 0, rfl, rfl⟩)
 | arr h hd r => exact .inr (.inl ⟨_, _, _, rfl, h.cell 0, h.cell 4, r⟩)
 | named h hd r => exact .inr (.inr ⟨8, h.cell 0, rfl, rfl⟩)
 | cst h hd r => exact .inr (.inr ⟨10, h.cell 0, rfl, rfl⟩)
 | enm h hd _ _ _ => exact .inr (.inr ⟨6, h.cell 0, rfl, rfl⟩)
 | @comp b sz n un nm pn py pa pb v xs pc h hd _ _ _ _ => cases un <;> exact .inr (.inr ⟨_, h.cell 0, rfl, rfl⟩)
theorem at_step {x y k c : Nat} (h : x ≤ k * c) (ha : y ≤ x + c) : y ≤ (k + 1) * c := by
 rw [Nat.succ_mul]; omega
theorem sz_done {a k n M : Nat} (h : a ≤ k * (8 * M + 256)) (hk : k ≤ n) : (a + 63) / 64 * 8 ≤ n * (M + 32) + 8 := by
 have h1 : k * (8 * M + 256) ≤ n * (8 * M + 256) := Nat.mul_le_mul_right _ hk
 have h2 : n * (8 * M + 256) = 8 * (n * (M + 32)) := by
  rw [show 8 * M + 256 = 8 * (M + 32) by omega, Nat.mul_left_comm]
 omega
theorem extract_one (ns : ByteArray) (nx : Nat) (h : nx < ns.size) : (ns.extract nx (nx + 1)).size = 1 := by
 rw [ByteArray.size_extract]; omega
theorem round_up (a sz : Nat) (h1 : 1 ≤ sz) (h8 : sz ≤ 8) :
  ∃ qd at1 : Nat, ((a : Int) + 8 * sz - 1) / (8 * sz) = (qd : Int) ∧ qd ≤ a + 64 ∧ (qd : Int) * 8 * sz = (at1 : Int) ∧ a ≤ at1 ∧ at1 < a + 8 * sz ∧ at1 % (8 * sz) = 0 := by
 have h0 : 0 < 8 * sz := by omega
 have e : ((a : Int) + 8 * sz - 1) / (8 * sz) = (((a + 8 * sz - 1) / (8 * sz) : Nat) : Int) := by
  rw [Int.natCast_ediv, Int.natCast_sub (by omega), Int.natCast_add, Int.natCast_mul]; rfl
 have hd := Nat.div_add_mod (a + 8 * sz - 1) (8 * sz)
 have hm := Nat.mod_lt (a + 8 * sz - 1) h0
 refine ⟨(a + 8 * sz - 1) / (8 * sz), (a + 8 * sz - 1) / (8 * sz) * (8 * sz), e, ?_, ?_, ?_, ?_, Nat.mul_mod_left _ _⟩
 ·exact Nat.le_trans (Nat.div_le_self _ _) (by omega)
 ·rw [Int.natCast_mul, Int.natCast_mul, Int.mul_assoc]; rfl
 ·rw [Nat.mul_comm]; omega
 ·rw [Nat.mul_comm]; omega
theorem mod_cast8 (a sz : Nat) : (a : Int) % (8 * (sz : Int)) = ((a % (8 * sz) : Nat) : Int) := by
 rw [Int.natCast_emod, Int.natCast_mul]; rfl
structure InPre (w1 : World) (ib : Nat) (kd : Int) (qn : ByteArray) (b0 : Nat) (w2 : World) : Prop where
 p : Blk w2 w1.heap.size #[.string qn, .pointer (some ⟨b0, 0, none⟩), .int .i64 0, .int .i64 0, .int .i64 0] 56
 i : Blk w2 ib #[.int .i64 kd, .string ⟨#[]⟩, .int .i64 0, .bool false, .pointer none, .slice none 0 0] 38
 lt : w1.heap.size < ib
 old : Below w1.heap.size w1 w2
structure InPost (w1 : World) (ib : Nat) (kd : Int) (qn qm : ByteArray) (b0 bi g cap : Nat) (w5 : World) : Prop where
 p : Blk w5 w1.heap.size #[.string qn, .pointer (some ⟨b0, 0, none⟩), .int .i64 0, .int .i64 0, .int .i64 0] 56
 i : Blk w5 ib #[.int .i64 kd, .string ⟨#[]⟩, .int .i64 0, .bool false, .pointer none, .slice (some ⟨g, 0, none⟩) 2 cap] 38
 lt : w1.heap.size < ib
 gt : ib < g
 row : ∃ cur, Blk w5 g cur 56 ∧ cur.size = cap * 5 ∧ 2 ≤ cap ∧ cap ≤ maxLen ∧ cur.toList.take 10 = [.string qn, .pointer (some ⟨b0, 0, none⟩), .int .i64 0, .int .i64 0, .int .i64 0, .string qm, .pointer (some ⟨bi, 0, none⟩), .int .i64 0, .int .i64 0, .int .i64 0]
 rep : ∃ t, IntT t ∧ Rep w5 (fun b => b ≤ ib ∨ b = g) bi t
 old : Below w1.heap.size w1 w5
theorem InPre.post {w1 w2 wA w5 : World} {ib b0 bi g cap : Nat} {kd : Int} {qn qm : ByteArray} {t : Ty} {o : Obj} (h : InPre w1 ib kd qn b0 w2) (ht : IntT t) (r : Rep wA (· < w2.heap.size) bi t) (hb : Below w2.heap.size w2 wA)
  (ha : Appended (wA.alloc o) (ib + 1) 56 5 (.slice none 0 0) 0 2 [] [.string qn, .pointer (some ⟨b0, 0, none⟩), .int .i64 0, .int .i64 0, .int .i64 0, .string qm, .pointer (some ⟨bi, 0, none⟩), .int .i64 0, .int .i64 0, .int .i64 0] g cap w5) :
  InPost w1 ib kd qn qm b0 bi g cap (w5.setCell ⟨ib, 5, none⟩ (.slice (some ⟨g, 0, none⟩) 2 cap)) := by
 have hil := h.i.lt
 have hsz := hb.size
 have hg : g = wA.heap.size + 1 := by
  rcases ha.2.2.1 with x | x
  ·simp [Value.ownBlock] at x
  ·rw [x]; show (wA.alloc o).heap.size = _; simp
 have hold : ∀ b, b < wA.heap.size → w5.heap[b]? = wA.heap[b]? := fun b hl => by
  rw [ha.2.1.block b (by show b < (wA.alloc o).heap.size; simp; omega) (fun x => by simp [Value.ownBlock] at x)]
  exact Below.heap_alloc wA o b hl
 have hset : ∀ b, b ≠ ib → (w5.setCell ⟨ib, 5, none⟩ (.slice (some ⟨g, 0, none⟩) 2 cap)).heap[b]? = w5.heap[b]? := fun b hne => Below.heap_setCell _ _ _ _ hne
 have hpl := h.p.lt
 refine ⟨?_, ?_, h.lt, by omega, ?_, ⟨t, ht, ?_⟩, ?_⟩
 ·exact (h.p.old hb).of_eq ((hset _ (by have := h.lt; omega)).trans (hold _ (by omega)))
 ·exact ((h.i.old hb).of_eq (hold _ (by omega))).set 5 _
 ·rcases ha.1.2 with ⟨x, _⟩ | ⟨g', cap', cur, hv, _, hc, h2, hm, hs, htk⟩
  ·simp at x
  ·simp only [Value.slice.injEq, Option.some.injEq, Addr.mk.injEq] at hv
   obtain ⟨⟨rfl, -, -⟩, -, rfl⟩ := hv
   exact ⟨cur, Blk.of_eq (w := w5) hc (hset _ (by omega)), hs, h2, hm, htk⟩
 ·refine r.keep (fun b hl hd => (hset b (fun x => hd (by show b < _; omega))).trans (hold b hl)) (fun b hl hx => ?_)
  show b < _
  rcases hx with hx | hx <;> omega
 ·exact h.old.trans ⟨ha.2.1.os.trans hb.os, ha.2.1.tape.trans hb.tape, ha.2.1.output.trans hb.output, by
   have := ha.2.1.size; have e : (wA.alloc o).heap.size = wA.heap.size + 1 := by simp
   show _ ≤ (w5.setCell _ _).heap.size; simp [World.setCell]; omega, fun b hl => by
   have := h.lt
   rw [hset b (by omega), hold b (by omega)]; exact hb.block b (by omega)⟩
theorem InPost.done {W wr w1 w5 w6 : World} {Dx : Nat → Prop} {F : Ty → Prop} {M A tb : Nat} {nm : ByteArray} {k : Nat} {v : Value} {xs : List Value} {pn : Nat → ByteArray} {py : Nat → Ty} {pa pb pc : Nat → Nat}
  {ib b0 bi g cap : Nat} {un : Bool} {qn qm : ByteArray} {t0 : Ty} {a1 sz q : Nat}
  (h : InPost w1 ib (if un then 5 else 4) qn qm b0 bi g cap w5) (st : StrSt W Dx F M A tb nm k v xs pn py pa pb pc wr) (hb0 : Below wr.heap.size wr w1) (r0 : Rep w1 (· < wr.heap.size) b0 t0)
  (hF0 : F t0) (hI : ∀ t, IntT t → F t) (hqn : qn.size = 1) (hqm : qm.size = 1) (hq : q ≤ 8 * M + 64 ∧ q % 64 = 0) (hsz : sz ≤ M + 16) (h64 : a1 % 64 = 0)
  (hp : Blk w6 w1.heap.size #[.string ⟨#[]⟩, .pointer (some ⟨ib, 0, none⟩), .int .i64 a1, .int .i64 0, .int .i64 0] 56)
  (hi : Blk w6 ib #[.int .i64 (if un then 5 else 4), .string ⟨#[]⟩, .int .i64 sz, .bool false, .pointer none, .slice (some ⟨g, 0, none⟩) 2 cap] 38)
  (hg : ∃ cur, Blk w6 g cur 56 ∧ cur.size = cap * 5 ∧ 2 ≤ cap ∧ cap ≤ maxLen ∧ cur.toList.take 10 = [.string qn, .pointer (some ⟨b0, 0, none⟩), .int .i64 0, .int .i64 0, .int .i64 0, .string qm, .pointer (some ⟨bi, 0, none⟩), .int .i64 q, .int .i64 0, .int .i64 0])
  (he : ∀ b, b ≠ w1.heap.size → b ≠ ib → b ≠ g → w6.heap[b]? = w5.heap[b]?) (hB : Below w1.heap.size w1 w6) :
  ∃ y, StrPre W Dx F M A tb nm k v xs pn py pa pb pc wr.heap.size w1.heap.size ⟨#[]⟩ ib y a1 0 w6 := by
 obtain ⟨it, hit, ri⟩ := h.rep
 obtain ⟨cur, hc, hcs, h2, hm, htk⟩ := hg
 have hil := h.lt
 have hig := h.gt
 have hs0 := hb0.size
 have htb := st.blk.lt
 have hgl := hc.lt
 have hDlt : ∀ b, (Dx b ∨ b = tb ∨ v.ownBlock = some b) → b < wr.heap.size := fun b hx => by
  rcases hx with hx | hx | hx
  ·have := st.dx b hx; omega
  ·omega
  ·exact (st.own.lt b hx).2
 refine ⟨.comp un ⟨#[]⟩ sz 2 (upd (fun _ => qn) 1 qm) (upd (fun _ => t0) 1 it) (upd (fun _ => 0) 1 q) (fun _ => 0), ⟨st.move (hb0.trans (hB.mono hs0)), hp, ?_, ?_, Nat.le_trans hs0 hB.size⟩⟩
 ·refine .comp (v := .slice (some ⟨g, 0, none⟩) 2 cap) (pc := upd (fun _ => b0) 1 bi) hi (fun hx => by have := hDlt _ hx; omega) ⟨?_, .inr ⟨g, cap, cur, rfl, Nat.zero_le _, hc, h2, hm, hcs, htk⟩⟩ (fun g' hg' hx => ?_) (fun i hi2 => ?_) (fun i hi2 => ?_)
  ·rfl
  ·have : g = g' := by simpa [Value.ownBlock] using hg'
   have := hDlt _ hx; omega
  ·rcases (by omega : i = 0 ∨ i = 1) with rfl | rfl
   ·exact ⟨rfl, rfl, rfl, rfl, rfl⟩
   ·exact ⟨rfl, rfl, rfl, rfl, rfl⟩
  ·rcases (by omega : i = 0 ∨ i = 1) with rfl | rfl
   ·exact (r0.keep (fun b hl _ => hB.block b hl) (fun b _ hx => hDlt b hx) : Rep w6 _ b0 t0)
   ·refine (ri.keep (fun b hl hd => he b (fun x => hd (.inl (by omega))) (fun x => hd (.inl (by omega))) (fun x => hd (.inr x))) (fun b _ hx => .inl (by have := hDlt b hx; omega)) : Rep w6 _ bi it)
 ·refine .inr ⟨rfl, ⟨un, sz, 2, _, _, _, _, rfl, by omega, by omega, hsz, fun i hi2 => ?_⟩, rfl, h64⟩
  rcases (by omega : i = 0 ∨ i = 1) with rfl | rfl
  ·exact ⟨hqn, hF0, .inl ⟨rfl, Nat.zero_mod _⟩, Nat.zero_le _⟩
  ·exact ⟨hqm, hI _ hit, .inl ⟨rfl, hit.al8.mod hq.2⟩, hq.1⟩
theorem below_undrew {w w' : World} (h : Below w.drew.heap.size w.drew w') : Below w.heap.size w w' := ⟨h.os, h.tape, h.output, h.size, h.block⟩
theorem Blk.newAt (w : World) (c : Array Value) (t : TypeId) {B : Nat} (hB : B = w.heap.size) : Blk (w.alloc (.cells c t)) B c t := by subst hB; exact Blk.new _ _ _
theorem slice_two (ns : ByteArray) (nx : Nat) (h : nx + 1 + 1 < ns.size) (w : World) :
  (Instr.slice 9 (.string ns) (some (.int .i64 ((nx : Int) + 1))) (some (.int .i64 ((nx : Int) + 1 + 1))) none).run Tryz.prog w = .ok (.string (ns.extract (nx + 1) (nx + 1 + 1))) w := by
 have := slice_one ns (nx + 1) (by omega) w
 rw [Int.natCast_add] at this
 exact this
section
variable {W wr w1 w5 wz : World} {Dx : Nat → Prop} {F : Ty → Prop} {M A tb : Nat} {nm : ByteArray} {k : Nat} {v : Value} {xs : List Value} {pn : Nat → ByteArray} {py : Nat → Ty} {pa pb pc : Nat → Nat}
  {ib b0 bi g cap : Nat} {un : Bool} {qn qm : ByteArray} {t0 : Ty} {a1 sz q : Nat}
end
end Go.Proofs.YtfilbgmbmlmdbaaGreatDoor
