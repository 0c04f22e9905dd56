/- The law FnType answers true: the walk. -/
import Derived.Test.YtfilbgmbmlmdbaaGreatDoorRelM
namespace Go.Proofs.YtfilbgmbmlmdbaaGreatDoor
open Go.RowKit Go.MapKept

set_option linter.unusedSimpArgs false in
set_option maxRecDepth 100000 in
set_option maxHeartbeats 8000000 in
theorem FnType_of (put_any : ∀ t, PutC t) (hS0 : StructC 0 Leaf 48) (w : World) (n m : Int) (size big : Bool) (hn : 0 ≤ n ∧ n < 4294967296) (hm : 0 ≤ m ∧ m < 4294967296) {a : Addr} (hev : w.cell? ⟨3, 0, none⟩ = some (.iface 228 (.pointer (some a)))) :
    Calls Tryz.prog 4 #[.int .u32 n, .int .u32 m, .bool size, .bool big] w fun e w' => e = .returned (.bool true) ∧ Below w.heap.size w w' := by
  have le := World.block_lt_of_cell? w _ hev
  simp only at le
  go_enter Tryz.func4, Tryz.ntmps4
  go_wp2_with fail
  refine (typeC_one hS0 n w hn.1 hn.2).mono ?_
  rintro e w1 ⟨b, t, rfl, r, ht, hb1⟩
  go_wp2_with fail
  refine (typeC_one hS0 m w1 hm.1 hm.2).mono ?_
  rintro e w2 ⟨c, u, rfl, s, hu, hb2⟩
  have r2 : Rep w2 Nowhere b t := (r.old hb2).weaken fun _ _ h => h.elim
  have s2 : Rep w2 Nowhere c u := s.weaken fun _ _ h => h.elim
  go_wp2_with fail
  refine (listedT_of put_any b t w2 r2 ht.good.1 (by have := ht.good.2; omega)).mono ?_
  rintro e w3 ⟨v1, n1, i1, xs1, D1, f1, rfl, rows1, hf1, rt1, hi1, hn1, hb3⟩
  have e1 : ((i1 + 1 : Nat) : Int) = (i1 : Int) + 1 := by omega
  rw [e1]
  go_wp2_with fail
  refine (listedT_of put_any c u w3 (s2.old hb3) hu.good.1 (by have := hu.good.2; omega)).mono ?_
  rintro e w4 ⟨v2, n2, i2, xs2, D2, f2, rfl, rows2, hf2, rt2, hi2, hn2, hb4⟩
  have e2 : ((i2 + 1 : Nat) : Int) = (i2 : Int) + 1 := by omega
  rw [e2]
  obtain ⟨g1, cap1, rfl, hg1⟩ := own_form rows1.own (by omega)
  obtain ⟨g2, cap2, rfl, hg2⟩ := own_form rows2.own (by omega)
  go_wp2_with fail
  refine (stands_any Nowhere Nowhere b c t u w4 ((r2.old hb3).old hb4) ((s2.old hb3).old hb4) ht.ofInts hu.ofInts).mono ?_
  rintro e w5 ⟨rfl, hb5⟩
  obtain ⟨k1, c1⟩ := rt_kind ht rt1 hf1 hi1
  obtain ⟨k2, c2⟩ := rt_kind hu rt2 hf2 hi2
  obtain ⟨wq, hwq⟩ : ∃ wq : World, wq = w5.alloc (.cells #[.int .i64 0] 3) := ⟨_, rfl⟩
  have h5q : Below w5.heap.size w5 wq := by rw [hwq]; exact (Below.refl _ _).alloc (Nat.le_refl _) _
  have habq : Blk wq w5.heap.size #[.int .i64 0] 3 := by rw [hwq]; exact Blk.new _ _ _
  have h4q : Below w4.heap.size w4 wq := hb5.trans (h5q.mono hb5.size)
  have h3q : Below w3.heap.size w3 wq := hb4.trans (h4q.mono hb4.size)
  have hbq : Below w.heap.size w wq := (hb1.trans (hb2.mono hb1.size)).trans ((hb3.trans (h3q.mono hb3.size)).mono (Nat.le_trans hb1.size hb2.size))
  have hevq := (hbq.cell (p := ⟨3, 0, none⟩) le).trans hev
  have leq := Nat.lt_of_lt_of_le le hbq.size
  have own1 := ownsRow_of rows1.own fun x _ hl => h3q.block x hl
  have own2 := ownsRow_of rows2.own fun x _ hl => h4q.block x hl
  have fits1 : ∀ i, i < n1 → FitsD wq D1 xs1 n1 i (f1 i) := fun i hi => (hf1 i hi).kept h3q
  have fits2 : ∀ i, i < n2 → FitsD wq D2 xs2 n2 i (f2 i) := fun i hi => (hf2 i hi).kept h4q
  cases size with
  | true =>
    by_cases hkd : t.behind.kind = u.behind.kind
    · have hcalc : ∀ W og1 pt1 ob1 og2 pt2 ob2 ab' acap idn rs, Below wq.heap.size wq W → Outs W n1 f1 og1 pt1 ob1 → Outs W n2 f2 og2 pt2 ob2 → W.cell? ⟨ab', 0, none⟩ = some (.int .i64 0) →
          CalcC W (objAt pt1 ob1 i1) (.slice (some ⟨ab', 0, none⟩) 1 acap) 9 (.int .u32 idn) (objAt pt2 ob2 i2) rs 9 (t.bytes : Int) (u.bytes : Int) false false := by
        intro W og1 pt1 ob1 og2 pt2 ob2 ab' acap idn rs hBW o1 o2 hz W2 cb bo hB' hblk
        have hac := (hB'.cell (p := ⟨ab', 0, none⟩) (World.block_lt_of_cell? W _ hz)).trans hz
        have herr := (hB'.cell (p := ⟨3, 0, none⟩) (Nat.lt_of_lt_of_le leq hBW.size)).trans ((hBW.cell (p := ⟨3, 0, none⟩) leq).trans hevq)
        exact calc9_yes (o1.ck (CellsKept.below hB')) (o2.ck (CellsKept.below hB')) hi1 hi2 (peels_of hf1) (peels_of hf2) c1 c2 ⟨hblk, hac, herr⟩ (k1.trans ((congrArg Int.ofNat hkd).trans k2.symm)) ⟨by omega, by have := ht.flat.1; omega⟩ ⟨by omega, by have := hu.flat.1; omega⟩ (rt_size (o1.ck (CellsKept.below hB')) ht rt1 hf1 hi1) (rt_size (o2.ck (CellsKept.below hB')) hu rt2 hf2 hi2)
      have HR := Lib.hid (relocated_any wq n1 cap1 g1 i1 n2 cap2 g2 i2 w5.heap.size xs1 xs2 D1 D2 f1 f2 0 9 _ _ _ _ _ big own1 (by have := ht.good.2; omega) fits1 hi1 own2 (by have := hu.good.2; omega) fits2 hi2 habq (by omega) (by omega) hcalc)
      have hB1 := Lib.hid (fun W (hW : Below w4.heap.size w4 W) => bytes_any Nowhere b t W (((r2.old hb3).old hb4).old hW) ht.flat.2)
      have hB2 := Lib.hid (fun W (hW : Below w4.heap.size w4 W) => bytes_any Nowhere c u W (((s2.old hb3).old hb4).old hW) hu.flat.2)
      have hy1 : (t.bytes : Int) ≤ 200 := by have := ht.flat.1; omega
      have hy2 : (u.bytes : Int) ≤ 200 := by have := hu.flat.1; omega
      rw [hwq] at HR
      clear hcalc rows1 rows2 hf1 hf2 rt1 rt2 own1 own2 fits1 fits2 habq c1 c2 k1 k2 r r2 s s2 ht hu hevq
      rw [decide_eq_true hkd]
      clear hkd
      go_wp2_with fail
      refine HR.out.mono ?_
      rintro e w6 ⟨rfl, hb6⟩
      rw [← hwq] at hb6
      have HB6 := Lib.hid (hbq.trans (hb6.mono hbq.size))
      have H46 : Hid (Below w4.heap.size w4 w6) := Lib.hid (h4q.trans (hb6.mono h4q.size))
      clear hb6
      go_wp2_with fail
      refine (hB1.out w6 H46.out).mono ?_
      rintro e w7 ⟨rfl, d1, rfl⟩
      go_wp2_with fail
      refine (hB2.out (w6.drewN d1) (below_drewN H46.out _)).mono ?_
      rintro e w8 ⟨rfl, d2, rfl⟩
      go_wp2_with fail
      go_ret
      exact ⟨rfl, below_drewN HB6.out _⟩
    · have hcalc : ∀ W og1 pt1 ob1 og2 pt2 ob2 ab' acap idn rs, Below wq.heap.size wq W → Outs W n1 f1 og1 pt1 ob1 → Outs W n2 f2 og2 pt2 ob2 → W.cell? ⟨ab', 0, none⟩ = some (.int .i64 0) →
          CalcC W (objAt pt1 ob1 i1) (.slice (some ⟨ab', 0, none⟩) 1 acap) 9 (.int .u32 idn) (objAt pt2 ob2 i2) rs 9 0 0 true false := by
        intro W og1 pt1 ob1 og2 pt2 ob2 ab' acap idn rs hBW o1 o2 hz W2 cb bo hB' hblk
        have hac := (hB'.cell (p := ⟨ab', 0, none⟩) (World.block_lt_of_cell? W _ hz)).trans hz
        have herr := (hB'.cell (p := ⟨3, 0, none⟩) (Nat.lt_of_lt_of_le leq hBW.size)).trans ((hBW.cell (p := ⟨3, 0, none⟩) leq).trans hevq)
        exact calc9_no (o1.ck (CellsKept.below hB')) (o2.ck (CellsKept.below hB')) hi1 hi2 (peels_of hf1) (peels_of hf2) c1 c2 ⟨hblk, hac, herr⟩ (fun e => hkd (Int.ofNat.inj (k1.symm.trans (e.trans k2))))
      have HR := Lib.hid (relocated_any wq n1 cap1 g1 i1 n2 cap2 g2 i2 w5.heap.size xs1 xs2 D1 D2 f1 f2 0 9 _ _ _ _ _ big own1 (by have := ht.good.2; omega) fits1 hi1 own2 (by have := hu.good.2; omega) fits2 hi2 habq (by omega) (by omega) hcalc)
      rw [hwq] at HR
      clear hcalc rows1 rows2 hf1 hf2 rt1 rt2 own1 own2 fits1 fits2 habq c1 c2 k1 k2 r r2 s s2 ht hu hevq
      rw [decide_eq_false hkd]
      clear hkd
      go_wp2_with fail
      refine HR.out.mono ?_
      rintro e w6 ⟨rfl, hb6⟩
      rw [← hwq] at hb6
      have HB6 := Lib.hid (hbq.trans (hb6.mono hbq.size))
      clear hb6
      go_wp2_with fail
      go_ret
      exact ⟨rfl, HB6.out⟩
  | false =>
    by_cases hkd : t.behind.kind = u.behind.kind
    · have hcalc : ∀ W og1 pt1 ob1 og2 pt2 ob2 ab' acap idn rs, Below wq.heap.size wq W → Outs W n1 f1 og1 pt1 ob1 → Outs W n2 f2 og2 pt2 ob2 → W.cell? ⟨ab', 0, none⟩ = some (.int .i64 0) →
          CalcC W (objAt pt1 ob1 i1) (.slice (some ⟨ab', 0, none⟩) 1 acap) 8 (.int .u32 idn) (objAt pt2 ob2 i2) rs 8 1 1 false false := by
        intro W og1 pt1 ob1 og2 pt2 ob2 ab' acap idn rs hBW o1 o2 hz W2 cb bo hB' hblk
        have hac := (hB'.cell (p := ⟨ab', 0, none⟩) (World.block_lt_of_cell? W _ hz)).trans hz
        have herr := (hB'.cell (p := ⟨3, 0, none⟩) (Nat.lt_of_lt_of_le leq hBW.size)).trans ((hBW.cell (p := ⟨3, 0, none⟩) leq).trans hevq)
        exact calc8_yes (o1.ck (CellsKept.below hB')) (o2.ck (CellsKept.below hB')) hi1 hi2 (peels_of hf1) (peels_of hf2) c1 c2 ⟨hblk, hac, herr⟩ (k1.trans ((congrArg Int.ofNat hkd).trans k2.symm))
      have HR := Lib.hid (relocated_any wq n1 cap1 g1 i1 n2 cap2 g2 i2 w5.heap.size xs1 xs2 D1 D2 f1 f2 0 8 _ _ _ _ _ big own1 (by have := ht.good.2; omega) fits1 hi1 own2 (by have := hu.good.2; omega) fits2 hi2 habq (by omega) (by omega) hcalc)
      rw [hwq] at HR
      clear hcalc rows1 rows2 hf1 hf2 rt1 rt2 own1 own2 fits1 fits2 habq c1 c2 k1 k2 r r2 s s2 ht hu hevq
      rw [decide_eq_true hkd]
      clear hkd
      go_wp2_with fail
      refine HR.out.mono ?_
      rintro e w6 ⟨rfl, hb6⟩
      rw [← hwq] at hb6
      have HB6 := Lib.hid (hbq.trans (hb6.mono hbq.size))
      clear hb6
      go_wp2_with fail
      go_ret
      exact ⟨rfl, HB6.out⟩
    · have hcalc : ∀ W og1 pt1 ob1 og2 pt2 ob2 ab' acap idn rs, Below wq.heap.size wq W → Outs W n1 f1 og1 pt1 ob1 → Outs W n2 f2 og2 pt2 ob2 → W.cell? ⟨ab', 0, none⟩ = some (.int .i64 0) →
          CalcC W (objAt pt1 ob1 i1) (.slice (some ⟨ab', 0, none⟩) 1 acap) 8 (.int .u32 idn) (objAt pt2 ob2 i2) rs 8 1 0 false false := by
        intro W og1 pt1 ob1 og2 pt2 ob2 ab' acap idn rs hBW o1 o2 hz W2 cb bo hB' hblk
        have hac := (hB'.cell (p := ⟨ab', 0, none⟩) (World.block_lt_of_cell? W _ hz)).trans hz
        have herr := (hB'.cell (p := ⟨3, 0, none⟩) (Nat.lt_of_lt_of_le leq hBW.size)).trans ((hBW.cell (p := ⟨3, 0, none⟩) leq).trans hevq)
        exact calc8_no (o1.ck (CellsKept.below hB')) (o2.ck (CellsKept.below hB')) hi1 hi2 (peels_of hf1) (peels_of hf2) c1 c2 ⟨hblk, hac, herr⟩ (fun e => hkd (Int.ofNat.inj (k1.symm.trans (e.trans k2))))
      have HR := Lib.hid (relocated_any wq n1 cap1 g1 i1 n2 cap2 g2 i2 w5.heap.size xs1 xs2 D1 D2 f1 f2 0 8 _ _ _ _ _ big own1 (by have := ht.good.2; omega) fits1 hi1 own2 (by have := hu.good.2; omega) fits2 hi2 habq (by omega) (by omega) hcalc)
      rw [hwq] at HR
      clear hcalc rows1 rows2 hf1 hf2 rt1 rt2 own1 own2 fits1 fits2 habq c1 c2 k1 k2 r r2 s s2 ht hu hevq
      rw [decide_eq_false hkd]
      clear hkd
      go_wp2_with fail
      refine HR.out.mono ?_
      rintro e w6 ⟨rfl, hb6⟩
      rw [← hwq] at hb6
      have HB6 := Lib.hid (hbq.trans (hb6.mono hbq.size))
      clear hb6
      go_wp2_with fail
      go_ret
      exact ⟨rfl, HB6.out⟩
#print axioms FnType_of
end Go.Proofs.YtfilbgmbmlmdbaaGreatDoor
