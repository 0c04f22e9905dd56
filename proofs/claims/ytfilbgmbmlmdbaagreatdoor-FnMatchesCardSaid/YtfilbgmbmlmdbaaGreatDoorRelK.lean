/- A relocation between types of two lists. Nothing is claimed here. -/
import Derived.Test.YtfilbgmbmlmdbaaGreatDoorRelJ
namespace Go.Proofs.YtfilbgmbmlmdbaaGreatDoor
open Go.RowKit Go.MapKept

theorem RowFits.kept {w w' : World} {D : Nat → Prop} {xs : List Value} {n i : Nat} {k : Int} {nm : ByteArray} {sz en fl : Int} {of ix : Nat} {mv : Value} {q : Nat} {ys : List Value} (h : RowFits w D xs n i k nm sz en fl of ix mv q ys) (hb : Below w.heap.size w w') :
    RowFits w' D xs n i k nm sz en fl of ix mv q ys := { h with own := ownsRow_of h.own fun x _ hl => hb.block x hl }
theorem intParts : ElemOk Tryz.prog 27 3 1 8 := .of (z := .int .i64 0) Tryz.underlying27 (by kernel_rfl) (by rfl) (by decide)
set_option linter.unusedSimpArgs false in
set_option maxRecDepth 100000 in
set_option maxHeartbeats 4000000 in
theorem relocated_any (w : World) (n1 cap1 g1 t1 n2 cap2 g2 t2 ab : Nat) (xs1 xs2 : List Value) (D1 D2 : Nat → Prop) (f1 f2 : Nat → RowD) (z k k' a b : Int) (p s big : Bool)
    (ho1 : w.ownsRow 0 72 8 (.slice (some ⟨g1, 0, none⟩) n1 cap1) n1 xs1) (hn1 : n1 ≤ 1000000) (hf1 : ∀ i, i < n1 → FitsD w D1 xs1 n1 i (f1 i)) (ht1 : t1 < n1)
    (ho2 : w.ownsRow 0 72 8 (.slice (some ⟨g2, 0, none⟩) n2 cap2) n2 xs2) (hn2 : n2 ≤ 1000000) (hf2 : ∀ i, i < n2 → FitsD w D2 xs2 n2 i (f2 i)) (ht2 : t2 < n2)
    (hab : Blk w ab #[.int .i64 z] 3) (hk0 : 0 ≤ k) (hk1 : k ≤ 12)
    (hcalc : ∀ W og1 pt1 ob1 og2 pt2 ob2 ab' acap idn rs, Below w.heap.size w W → Outs W n1 f1 og1 pt1 ob1 → Outs W n2 f2 og2 pt2 ob2 → W.cell? ⟨ab', 0, none⟩ = some (.int .i64 z) →
      CalcC W (objAt pt1 ob1 t1) (.slice (some ⟨ab', 0, none⟩) 1 acap) k (.int .u32 idn) (objAt pt2 ob2 t2) rs k' a b p s) :
    Calls Tryz.prog 16 #[.slice (some ⟨g1, 0, none⟩) n1 cap1, .int .i64 ((t1 : Int) + 1), .slice (some ⟨g2, 0, none⟩) n2 cap2, .int .i64 ((t2 : Int) + 1), .slice (some ⟨ab, 0, none⟩) 1 1, .int .i64 k, .bool big] w
      fun e w' => e = .returned (.tuple #[.int .u64 a, .int .u64 b, .bool p, .bool true]) ∧ Below w.heap.size w w' := by
  have hts : (t1 : Int) ≤ 1000000 := by omega
  have hts2 : (t2 : Int) ≤ 1000000 := by omega
  have HC := Lib.hid hcalc
  have HF1 := Lib.hid hf1
  have HF2 := Lib.hid hf2
  have HO1 := Lib.hid ho1
  have HO2 := Lib.hid ho2
  have HA := Lib.hid hab
  clear hcalc hf1 hf2 ho1 ho2 hab
  go_enter Tryz.func16, Tryz.ntmps16
  go_wp2_with fail
  refine (one_any w n1 cap1 g1 t1 xs1 D1 f1 HO1.out hn1 HF1.out ht1).mono ?_
  rintro e w1 ⟨og1, pt1, ob1, rfl, o1, hb1⟩
  have O1 := Lib.hid o1
  clear o1
  go_wp2_with fail
  refine (one_any w1 n2 cap2 g2 t2 xs2 D2 f2 (ownsRow_of HO2.out fun x _ hl => hb1.block x hl) hn2 (fun i hi => (HF2.out i hi).kept hb1) ht2).mono ?_
  rintro e w2 ⟨og2, pt2, ob2, rfl, o2, hb2⟩
  have O2 := Lib.hid o2
  clear o2
  have hb12 : Below w.heap.size w w2 := hb1.trans (hb2.mono hb1.size)
  have hal := hb12.alloc hb12.size (.cells #[.slice (some ⟨og2, 0, none⟩) n2 n2] 78)
  have hA3 := HA.out.old hal
  have Hal := Lib.hid hal
  have hkb : k < 4294967296 := by omega
  clear hal
  go_wp2_with fail
  refine (is32_any k _ hk0 (by omega)).mono ?_
  rintro e w9 ⟨rfl, rfl⟩
  go_wp2_with (at_builtin; refine wpList_app intParts (.const (.slice none 0 0)) (.tmp 67) rfl rfl w2.heap.size (.slice none 0 0) 0 [] rfl (World.ownsRow_nil _ _ _ _) ab 1 1 _ rfl hA3 rfl rfl (by decide) ?_ ?ka1 ?ka2 ?ka3; intro g cap w4 ha)
  case ka1 => omega
  case ka2 => unfold maxLen; omega
  case ka3 => simp
  have hb4 : Below w.heap.size w w4 := Hal.out.grown ha.2.1 Hal.out.size (fun x hx => by simp [Value.ownBlock] at hx)
  have hb24 : Below w2.heap.size w2 w4 := ((Below.refl _ _).alloc (Nat.le_refl _) _).grown ha.2.1 (by simp) (fun x hx => by simp [Value.ownBlock] at hx)
  have o1 := (O1.out.ck (CellsKept.below hb2)).ck (CellsKept.below hb24)
  have o2 := O2.out.ck (CellsKept.below hb24)
  have hz : w4.cell? ⟨g, 0, none⟩ = some (.int .i64 z) := own_cell ha.1 rfl
  refine (zzFixup_any w4 _ _ _ _ _ _ _ k _ k' a b p s big (HC.out w4 og1 pt1 ob1 og2 pt2 ob2 g cap _ _ hb4 o1 o2 hz)).mono ?_
  rintro e w5 ⟨rfl, hb5⟩
  have hb6 := hb4.trans (hb5.mono hb4.size)
  have Hb6 := Lib.hid hb6
  clear o1 o2 hz ha hb5 hb4 hb24 hb6 hA3
  go_wp2_with fail
  go_quiet (fail)
  go_wp2_with fail
  refine bodyPost_ret (results_tmp4 rfl _ _ _) rfl ?_
  exact ⟨rfl, below_drewN Hb6.out _⟩
#print axioms relocated_any
end Go.Proofs.YtfilbgmbmlmdbaaGreatDoor
