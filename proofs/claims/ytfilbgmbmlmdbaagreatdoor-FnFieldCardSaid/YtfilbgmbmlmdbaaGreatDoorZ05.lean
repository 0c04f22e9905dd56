/- The contracts of listed and of its index type. -/
import Derived.Test.YtfilbgmbmlmdbaaGreatDoorZ04
import Derived.Laws.EntriesVeiled
set_option linter.unusedSimpArgs false
set_option linter.unusedVariables false
set_option maxRecDepth 1000000
set_option maxHeartbeats 16000000
namespace Go.Proofs.YtfilbgmbmlmdbaaGreatDoor
open Go.RowKit
structure Rows (w : World) (v : Value) (n : Nat) (xs : List Value) (D : Nat → Prop) : Prop where
 own : w.ownsRow 0 72 8 v n xs
 ob : ∀ g, v.ownBlock = some g → D g
 fits : ∀ i, i < n → ∃ k nm sz en fl of ix mv q ys, RowFits w D xs n i k nm sz en fl of ix mv q ys
theorem indexType_any (w : World) : Calls Tryz.prog 30 #[] w fun e w' => e = .returned (.pointer (some ⟨w.heap.size, 0, none⟩)) ∧ w' = w.alloc (.cells #[.int .i64 1, .string ⟨#[117, 52]⟩, .int .i64 4, .bool false, .pointer none, .slice none 0 0] 38) := by
 go_enter Tryz.func30, Tryz.ntmps30
 go_wp2
 go_ret
 exact ⟨rfl, rfl⟩
theorem LSt.start {W : World} {lb mb hb : Nat} (ixv : Value) (hl : Blk W lb #[.slice (some ⟨hb, 0, none⟩) 0 0] 40) (hm : IsMapOf W mb (fun _ => none)) (hh : Blk W hb #[] 72) (h1 : lb ≠ mb) (h2 : lb ≠ hb) (h3 : mb ≠ hb) :
  LSt W lb mb ixv hb (fun _ => False) 0 (.slice (some ⟨hb, 0, none⟩) 0 0) [] (fun _ => none) (fun _ => False) W :=
 ⟨hl, ⟨rfl, .inr ⟨hb, 0, #[], rfl, Nat.zero_le _, hh, Nat.le_refl _, Nat.zero_le _, rfl, rfl⟩⟩, fun g hg => .inl (Option.some.inj hg).symm, hm, fun x u h => by simp at h, fun x y u h => by simp at h, fun i h => by omega, fun i h => h.elim, Old.refl _ _ _ _,
  ⟨hl.lt, hm.lt, hh.lt, h1, h2, h3⟩, fun g h => h.elim⟩
def listedW (w : World) : World :=
 ((((((w.alloc (.cells #[] 72)).alloc (.cells #[.slice (some ⟨w.heap.size, 0, none⟩) 0 0] 40)).alloc (.map #[] 0)).alloc (.cells #[.map (some (w.heap.size + 1 + 1))] 67)).alloc
  (.cells #[.int .i64 1, .string ⟨#[117, 52]⟩, .int .i64 4, .bool false, .pointer none, .slice none 0 0] 38)).alloc (.cells #[.pointer (some ⟨w.heap.size + 1 + 1 + 1 + 1, 0, none⟩)] 24)).alloc
  (.cells #[.func (.func 31) #[] #[.pointer (some ⟨w.heap.size + 1 + 1 + 1, 0, none⟩), .pointer (some ⟨w.heap.size + 1, 0, none⟩), .pointer (some ⟨w.heap.size + 1 + 1 + 1 + 1 + 1 + 1, 0, none⟩), .pointer (some ⟨w.heap.size + 1 + 1 + 1 + 1 + 1, 0, none⟩)]] 68)
theorem listedW_blocks (w : World) : Below w.heap.size w (listedW w) ∧ (listedW w).heap.size = w.heap.size + 1 + 1 + 1 + 1 + 1 + 1 + 1 ∧ Blk (listedW w) w.heap.size #[] 72 ∧ Blk (listedW w) (w.heap.size + 1) #[.slice (some ⟨w.heap.size, 0, none⟩) 0 0] 40 ∧ IsMapOf (listedW w) (w.heap.size + 1 + 1) (fun _ => none) ∧
  Blk (listedW w) (w.heap.size + 1 + 1 + 1) #[.map (some (w.heap.size + 1 + 1))] 67 ∧ Blk (listedW w) (w.heap.size + 1 + 1 + 1 + 1) #[.int .i64 1, .string ⟨#[117, 52]⟩, .int .i64 4, .bool false, .pointer none, .slice none 0 0] 38 ∧
  Blk (listedW w) (w.heap.size + 1 + 1 + 1 + 1 + 1) #[.pointer (some ⟨w.heap.size + 1 + 1 + 1 + 1, 0, none⟩)] 24 ∧
  Blk (listedW w) (w.heap.size + 1 + 1 + 1 + 1 + 1 + 1) #[.func (.func 31) #[] #[.pointer (some ⟨w.heap.size + 1 + 1 + 1, 0, none⟩), .pointer (some ⟨w.heap.size + 1, 0, none⟩), .pointer (some ⟨w.heap.size + 1 + 1 + 1 + 1 + 1 + 1, 0, none⟩), .pointer (some ⟨w.heap.size + 1 + 1 + 1 + 1 + 1, 0, none⟩)]] 68 := by
 have hm : IsMapOf (((w.alloc (.cells #[] 72)).alloc (.cells #[.slice (some ⟨w.heap.size, 0, none⟩) 0 0] 40)).alloc (.map #[] 0)) (w.heap.size + 1 + 1) (fun _ => none) := by
  have := IsMapOf.made ((w.alloc (.cells #[] 72)).alloc (.cells #[.slice (some ⟨w.heap.size, 0, none⟩) 0 0] 40))
  simpa using this
 refine ⟨?_, by simp [listedW], ?_, ?_, ?_, ?_, ?_, ?_, ?_⟩
 ·exact (((((((Below.refl _ _).alloc (Nat.le_refl _) _).alloc (by simp) _).alloc (by simp; omega) _).alloc (by simp; omega) _).alloc (by simp; omega) _).alloc (by simp; omega) _).alloc (by simp; omega) _
 ·exact ((((((Blk.new _ _ _).alloc _).alloc _).alloc _).alloc _).alloc _).alloc _
 ·exact (((((Blk.newAt _ _ _ (by simp)).alloc _).alloc _).alloc _).alloc _).alloc _
 ·exact (((hm.alloc _).alloc _).alloc _).alloc _
 ·exact (((Blk.newAt _ _ _ (by simp)).alloc _).alloc _).alloc _
 ·exact ((Blk.newAt _ _ _ (by simp)).alloc _).alloc _
 ·exact (Blk.newAt _ _ _ (by simp)).alloc _
 ·exact Blk.newAt _ _ _ (by simp)
theorem is32_any (z : Int) (w : World) (h0 : 0 ≤ z) (h1 : z < 4294967296) : Calls Tryz.prog 35 #[.int .i64 z] w fun e w' => e = .returned (.bool true) ∧ w' = w := by
 have hb : z ≤ 4294967295 := by omega
 go_enter Tryz.func35, Tryz.ntmps35
 go_wp2
 go_ret
 exact ⟨rfl, rfl⟩
theorem ref_any (o n cap g lb : Nat) (w : World) (hn : o ≤ n) (hn1 : n ≤ 1000000) (hl : w.cell? ⟨lb, 0, none⟩ = some (.slice (some ⟨g, 0, none⟩) n cap)) (hk : 1 ≤ o → ∃ z : Int, w.cell? ⟨g, (o - 1) * 8, none⟩ = some (.int .i64 z) ∧ z ≠ 17) :
  Calls Tryz.prog 74 #[.int .i64 o, .pointer (some ⟨lb, 0, none⟩)] w fun e w' => e = .returned (.bool true) ∧ w' = w := by
 by_cases h0 : o = 0
 ·subst h0
  clear hk
  have hb : (0 : Int) ≤ n := by omega
  go_enter Tryz.func74, Tryz.ntmps74
  go_wp2
  go_ret
  exact ⟨rfl, rfl⟩
 ·obtain ⟨z, hz, hz17⟩ := hk (by omega)
  obtain ⟨j, rfl⟩ : ∃ j, o = j + 1 := ⟨o - 1, by omega⟩
  simp only [Nat.add_sub_cancel] at hz
  have hb1 : ((j : Int) + 1) ≤ n := by omega
  have hb0 : (0 : Int) ≤ (j : Int) + 1 := by omega
  have hne : (((j : Int) + 1) == 0) = false := by simp; omega
  have hj : (j : Int) < n := by omega
  have hjs : (j : Int) ≤ 1000000 := by omega
  have h17 : (z == 17) = false := by simpa using hz17
  go_enter Tryz.func74, Tryz.ntmps74
  go_wp2
  go_ret
  exact ⟨congrArg (fun b => Ending.returned (Value.bool b)) (by simp only [bne, h17]; rfl), rfl⟩
theorem row_cells' {w : World} {base e n g cap i : Nat} {xs : List Value} {nm : ByteArray} {of : Value} {a b v : Int} (h : w.ownsRow base e 5 (.slice (some ⟨g, 0, none⟩) n cap) n xs) (hr : PRow xs i nm of a b v) :
  w.cell? ⟨g, i * 5, none⟩ = some (.string nm) ∧ w.cell? ⟨g, i * 5 + 1, none⟩ = some of ∧ w.cell? ⟨g, i * 5 + 2, none⟩ = some (.int .i64 a) ∧ w.cell? ⟨g, i * 5 + 3, none⟩ = some (.int .i64 b) ∧ w.cell? ⟨g, i * 5 + 4, none⟩ = some (.int .i64 v) := row_cells h hr
def KindsAt (w : World) (g n : Nat) : Prop := ∀ i, i < n → ∃ z : Int, w.cell? ⟨g, i * 8, none⟩ = some (.int .i64 z) ∧ z ≠ 17
theorem KindsAt.old {w w' : World} {g n : Nat} (h : KindsAt w g n) (hg : g < w.heap.size) (hb : Below w.heap.size w w') : KindsAt w' g n := fun i hi => by
 obtain ⟨z, hz, h17⟩ := h i hi
 exact ⟨z, by rw [hb.cell (p := ⟨g, i * 8, none⟩) hg]; exact hz, h17⟩
theorem fits_any (w : World) (k : Int) (nm : ByteArray) (sz en fl : Int) (of ix : Nat) (mv : Value) (q n cap g : Nat) (ys : List Value) (hn : n ≤ 1000000) (hg : g < w.heap.size) (hks : KindsAt w g n)
  (hk : 1 ≤ k ∧ k ≤ 19) (hsz : 0 ≤ sz ∧ sz < 4294967296) (hen : 0 ≤ en ∧ en ≤ 255) (hfl : 0 ≤ fl ∧ fl ≤ 1) (hof : of ≤ n) (hix : ix ≤ n) (ho : w.ownsRow 0 74 5 mv q ys)
  (hq : q ≤ 1000) (hm : ∀ j, j < q → ∃ (nm : ByteArray) (o : Nat) (a b v : Int), PRow ys j nm (.int .i64 o) a b v ∧ o ≤ n ∧ (0 ≤ a ∧ a < 4294967296) ∧ (0 ≤ b ∧ b < 4294967296)) :
  Calls Tryz.prog 48 #[.agg #[.int .i64 k, .string nm, .int .i64 sz, .int .i64 en, .int .i64 fl, .int .i64 of, .int .i64 ix, mv], .slice (some ⟨g, 0, none⟩) n cap] w fun e w' => e = .returned (.bool true) ∧ Below w.heap.size w w' := by
 obtain ⟨ma, mcap, rfl⟩ := own_slice ho
 have hsz1 := hsz.1
 have hsz2 := hsz.2
 have t1 : ¬ k < 1 := by omega
 have t2 : ¬ 19 < k := by omega
 have t3 : ¬ en < 0 := by omega
 have t4 : ¬ 255 < en := by omega
 have t5 : ¬ fl < -1 := by omega
 have t6 : ¬ 1073741824 < fl := by omega
 go_enter Tryz.func48, Tryz.ntmps48
 go_wp2_with fail
 refine (is32_any sz _ hsz1 hsz2).mono ?_
 rintro e w1 ⟨rfl, rfl⟩
 have hb2 : Below w.heap.size w ((w.alloc (.cells #[.int .i64 k, .string nm, .int .i64 sz, .int .i64 en, .int .i64 fl, .int .i64 of, .int .i64 ix, .slice ma q mcap] 72)).alloc (.cells #[.slice (some ⟨g, 0, none⟩) n cap] 40)) := ((Below.refl _ _).alloc (Nat.le_refl _) _).alloc (by simp) _
 have hks2 := hks.old hg hb2
 have hls : Blk ((w.alloc (.cells #[.int .i64 k, .string nm, .int .i64 sz, .int .i64 en, .int .i64 fl, .int .i64 of, .int .i64 ix, .slice ma q mcap] 72)).alloc (.cells #[.slice (some ⟨g, 0, none⟩) n cap] 40)) (w.heap.size + 1) #[.slice (some ⟨g, 0, none⟩) n cap] 40 := Blk.newAt _ _ _ (by simp)
 have hl0 := hls.cell 0
 simp only [List.getElem?_toArray, List.getElem?_cons_zero] at hl0
 go_wp2_with fail
 refine (ref_any of n cap g (w.heap.size + 1) _ hof hn hl0 (fun h1 => hks2 (of - 1) (by omega))).mono ?_
 rintro e w1 ⟨rfl, rfl⟩
 go_wp2_with fail
 refine (ref_any ix n cap g (w.heap.size + 1) _ hix hn hl0 (fun h1 => hks2 (ix - 1) (by omega))).mono ?_
 rintro e w1 ⟨rfl, rfl⟩
 go_wp2_with fail
 go_loopg [60] q (fun gk s60 wr => ∃ j : Nat, j ≤ q ∧ q - j ≤ gk ∧ s60 = .int .i64 j ∧ Below w.heap.size w wr ∧ Blk wr (w.heap.size + 1) #[.slice (some ⟨g, 0, none⟩) n cap] 40)
 case atStart => exact ⟨0, Nat.zero_le _, Nat.le_refl _, rfl, hb2, hls⟩
 case round =>
  obtain ⟨j, hj, hgk, rfl, hbr, hlr⟩ := hrel
  clear hl0
  by_cases hlt : j < q
  ·obtain ⟨nm2, o2, a2, b2, v2, hrow, ho2, ha2, hb22⟩ := hm j hlt
   obtain ⟨mg, mcap', hme, hmg⟩ := own_form ho (by omega)
   simp only [Value.slice.injEq] at hme
   obtain ⟨rfl, -, rfl⟩ := hme
   have hor : wr.ownsRow 0 74 5 (.slice (some ⟨mg, 0, none⟩) q mcap) q ys := ownsRow_of ho fun x _ hl => hbr.block x hl
   obtain ⟨q0, q1, q2, q3, q4⟩ := row_cells' hor hrow
   have hmg2 : mg < wr.heap.size := Nat.lt_of_lt_of_le hmg hbr.size
   have hl1 := hlr.cell 0
   have hllt := hlr.lt
   simp only [List.getElem?_toArray, List.getElem?_cons_zero] at hl1
   go_wp2_with fail
   have hlr2 : Blk (wr.alloc (.cells #[.string nm2, .int .i64 o2, .int .i64 a2, .int .i64 b2, .int .i64 v2] 74)) (w.heap.size + 1) _ _ := hlr.alloc _
   have hbr2 : Below w.heap.size w (wr.alloc (.cells #[.string nm2, .int .i64 o2, .int .i64 a2, .int .i64 b2, .int .i64 v2] 74)) := hbr.alloc hbr.size _
   refine (ref_any o2 n cap g (w.heap.size + 1) _ ho2 hn (hlr2.cell 0) (fun h1 => (hks.old hg hbr2) (o2 - 1) (by omega))).mono ?_
   rintro e w1 ⟨rfl, rfl⟩
   go_wp2_with fail
   refine (is32_any a2 _ ha2.1 ha2.2).mono ?_
   rintro e w1 ⟨rfl, rfl⟩
   go_wp2_with fail
   refine (is32_any b2 _ hb22.1 hb22.2).mono ?_
   rintro e w1 ⟨rfl, rfl⟩
   go_wp2_with fail
   go_roundg (q - (j + 1))
   case measure => omega
   case rel => exact ⟨j + 1, hlt, Nat.le_refl _, by go_num, hbr2, hlr2⟩
  ·go_wp2_with fail
   go_ret
   exact ⟨rfl, hbr⟩
inductive ObjC (nm : ByteArray) (sz en fl : Int) : Int → TypeId → Array Value → TypeId → Prop
 | int : ObjC nm sz en fl 1 151 #[.string nm, .int .u32 sz, .int .u8 en] 156
 | ptr : ObjC nm sz en fl 2 164 #[.nilIface] 166
 | arr : ObjC nm sz en fl 3 167 #[.nilIface, .nilIface, .int .u32 sz] 169
 | str : ObjC nm sz en fl 4 162 #[.string nm, .int .u32 sz, .slice none 0 0, .slice none 0 0] 194
 | uni : ObjC nm sz en fl 5 163 #[.string nm, .int .u32 sz, .slice none 0 0, .slice none 0 0] 195
 | enm : ObjC nm sz en fl 6 144 #[.string nm, .int .u32 sz, .bool (fl == 1), .slice none 0 0] 150
 | tdf : ObjC nm sz en fl 8 196 #[.string nm, .nilIface, .slice none 0 0] 198
 | cst : ObjC nm sz en fl 10 202 #[.nilIface] 203
theorem made_any (w : World) (k : Int) (nm : ByteArray) (sz en fl of ix : Int) (mv : Value) (hk : KindOk k) (hsz : 0 ≤ sz ∧ sz < 4294967296) (hen : 0 ≤ en ∧ en < 256) :
  Calls Tryz.prog 49 #[.agg #[.int .i64 k, .string nm, .int .i64 sz, .int .i64 en, .int .i64 fl, .int .i64 of, .int .i64 ix, mv]] w fun e w' =>
   ∃ b pt cs ty, e = .returned (.iface pt (.pointer (some ⟨b, 0, none⟩))) ∧ ObjC nm sz en fl k pt cs ty ∧ Blk w' b cs ty ∧ w.heap.size ≤ b ∧ Below w.heap.size w w' := by
 have h1 := hsz.1
 have h2 := hsz.2
 have h3 := hen.1
 have h4 := hen.2
 rcases hk with rfl | rfl | rfl | rfl | rfl | rfl | rfl | rfl
 all_goals
  go_enter Tryz.func49, Tryz.ntmps49
  go_wp2
  go_ret
 all_goals exact ⟨w.heap.size + 1, _, _, _, rfl, by constructor, Blk.newAt _ _ _ (by simp), by omega, ((Below.refl _ _).alloc (Nat.le_refl _) _).alloc (by simp) _⟩
end Go.Proofs.YtfilbgmbmlmdbaaGreatDoor
