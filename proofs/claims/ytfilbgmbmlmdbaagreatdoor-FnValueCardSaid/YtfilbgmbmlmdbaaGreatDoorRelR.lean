/- The law FnValue answers true: plain words, and the walk. -/
import Derived.Test.YtfilbgmbmlmdbaaGreatDoorRelP
import Derived.Test.YtfilbgmbmlmdbaaGreatDoorRelQ
namespace Go.Proofs.YtfilbgmbmlmdbaaGreatDoor
open Go.RowKit Go.MapKept

theorem FoundAt.keep {vn : Nat → ByteArray} {k j : Nat} {nm : ByteArray} (h : FoundAt vn k nm (some j)) : FoundAt vn (k + 1) nm (some j) := ⟨Nat.lt_succ_of_lt h.1, h.2.1, h.2.2⟩
theorem FoundAt.hit {vn : Nat → ByteArray} {k : Nat} {nm : ByteArray} (h : FoundAt vn k nm none) (e : vn k = nm) : FoundAt vn (k + 1) nm (some k) := ⟨Nat.lt_succ_self _, e, h⟩
theorem FoundAt.miss {vn : Nat → ByteArray} {k : Nat} {nm : ByteArray} (h : FoundAt vn k nm none) (e : vn k ≠ nm) : FoundAt vn (k + 1) nm none := fun x hx => by
  by_cases hxk : x = k
  · rw [hxk]; exact e
  · exact h x (by omega)
/-- The value that is found. -/
def fndV (vv : Nat → Int) : Option Nat → Int
  | some j => vv j
  | none => 0
theorem toList_ne {x y : ByteArray} (h : x ≠ y) : (x.toList == y.toList) = false := by
  have hh : (x == y) = false := by
    cases e : x == y with
    | false => rfl
    | true => exact absurd ((MapKept.bytes_beq _ _).1 e) h
  rw [beq_toListBytes] at hh
  exact hh
/-- What is found of a name among a type's values. -/
def FindSpec (u : Ty) (nm : ByteArray) (r : Option Nat) (z : Int) : Prop :=
  (∃ nm' sg' q vn vv, u = .enm nm' sg' q vn vv ∧ FoundAt vn q nm r ∧ z = (match r with
    | some j => vv j
    | none => 0)) ∨ (u.behind.kind ≠ 6 ∧ r = none ∧ z = 0)
/-- The values of an enumeration, as the reference has them. -/
def EnmRep (w : World) (b n vg cap : Nat) (vn : Nat → ByteArray) (vv : Nat → Int) : Prop :=
  w.cell? ⟨b, 0, none⟩ = some (.int .i64 6) ∧ w.cell? ⟨b, 5, none⟩ = some (.slice (some ⟨vg, 0, none⟩) n cap) ∧ b < w.heap.size ∧ vg < w.heap.size ∧ ∀ j, j < n → w.cell? ⟨vg, j * 5, none⟩ = some (.string (vn j)) ∧ w.cell? ⟨vg, j * 5 + 1, none⟩ = some (.pointer none) ∧
    w.cell? ⟨vg, j * 5 + 2, none⟩ = some (.int .i64 0) ∧ w.cell? ⟨vg, j * 5 + 3, none⟩ = some (.int .i64 0) ∧ w.cell? ⟨vg, j * 5 + 4, none⟩ = some (.int .i64 (vv j))
theorem Rep.enmRep {w : World} {D : Nat → Prop} {b n : Nat} {nm : ByteArray} {sg : Bool} {vn : Nat → ByteArray} {vv : Nat → Int} (r : Rep w D b (.enm nm sg n vn vv)) (hn : 1 ≤ n) : ∃ vg cap, EnmRep w b n vg cap vn vv := by
  cases r with
  | enm h hd ho hv hr =>
    obtain ⟨vg, cap, rfl, hvg⟩ := own_form ho (by omega)
    refine ⟨vg, cap, h.cell 0, h.cell 5, h.lt, hvg, fun j hj => ?_⟩
    exact row_cells ho (hr j hj)
theorem EnmRep.ck {w w' : World} {b n vg cap : Nat} {vn : Nat → ByteArray} {vv : Nat → Int} (h : EnmRep w b n vg cap vn vv) (hc : CellsKept w w') : EnmRep w' b n vg cap vn vv :=
  ⟨hc.cell h.1, hc.cell h.2.1, Nat.lt_of_lt_of_le h.2.2.1 hc.size, Nat.lt_of_lt_of_le h.2.2.2.1 hc.size, fun j hj => by
    obtain ⟨h0, h1, h2, h3, h4⟩ := h.2.2.2.2 j hj
    exact ⟨hc.cell h0, hc.cell h1, hc.cell h2, hc.cell h3, hc.cell h4⟩⟩
theorem RT.enmK {f : Nat → RowD} {i n : Nat} {nm : ByteArray} {sg : Bool} {vn : Nat → ByteArray} {vv : Nat → Int} (r : RT f i (.enm nm sg n vn vv)) : (f i).k = 6 := by
  cases r with
  | enm hk _ _ _ _ _ => exact hk
/-- An enumeration, or not. -/
theorem FT.enum {u : Ty} (h : FT u) : EnmT u ∨ u.behind.kind ≠ 6 := by
  rcases h with h | h
  · cases h with
    | int h => obtain ⟨sz, sg, nm, rfl, _⟩ := h; exact .inr (by simp [Ty.behind, Ty.kind])
    | ptr h => exact .inr (by simp [Ty.behind, Ty.kind])
    | enm h => exact .inl h
    | arr h _ _ => exact .inr (by simp [Ty.behind, Ty.kind])
    | named h _ => obtain ⟨sz, sg, nm, rfl, _⟩ := h; exact .inr (by simp [Ty.behind, Ty.kind])
    | cst h => obtain ⟨sz, sg, nm, rfl, _⟩ := h; exact .inr (by simp [Ty.behind, Ty.kind])
  · obtain ⟨sz, n, pn, py, pa, pb, rfl, _⟩ := h
    exact .inr (by simp [Ty.behind, Ty.kind])

set_option linter.unusedSimpArgs false in
set_option maxRecDepth 100000 in
set_option maxHeartbeats 8000000 in
theorem FnValue_of (put_any : ∀ t, PutC t) (hS0 : StructC 0 Leaf 48) (w : World) (n m jv : Nat) (other ex big : Bool) (hn : n < 4294967296) (hm : m < 4294967296) (hj : jv < 256) {a : Addr} (hev : w.cell? ⟨4, 0, none⟩ = some (.iface 228 (.pointer (some a)))) :
    Calls Tryz.prog 5 #[.int .u32 n, .int .u32 m, .int .u8 jv, .bool other, .bool ex, .bool big] w fun e w' => e = .returned (.bool true) ∧ Below w.heap.size w w' := by
  have le := World.block_lt_of_cell? w _ hev
  simp only at le
  go_enter Tryz.func5, Tryz.ntmps5
  go_wp2_with fail
  refine (enumOf_any n w hn).mono ?_
  rintro e w1 ⟨b, t, rfl, r, ht, hb1⟩
  go_wp2_with fail
  refine (enumOf_any m w1 hm).mono ?_
  rintro e w2 ⟨c0, u0, rfl, s0, hu0, hb2⟩
  go_upto_if 34 with fail
  go_cut [14] (fun s14 wx => ∃ c u, s14 = .pointer (some ⟨c, 0, none⟩) ∧ Rep wx Nowhere c u ∧ FT u ∧ Below w2.heap.size w2 wx)
  case first =>
    cases other with
    | true =>
      go_wp2_with fail
      refine (typeC_one hS0 ((m : Int) / 8) w2 (by omega) (by omega)).mono ?_
      rintro e w3 ⟨c, u, rfl, s, hu, hb3⟩
      go_wp2_with fail
      go_meet
      exact ⟨c, u, rfl, s.weaken fun _ _ h => h.elim, hu, hb3⟩
    | false =>
      go_wp2_with fail
      go_meet
      exact ⟨c0, u0, rfl, s0.weaken fun _ _ h => h.elim, .inl (.enm hu0), Below.refl _ _⟩
  case rest =>
    obtain ⟨c, u, rfl, s, hu, hb3⟩ := hcut
    obtain ⟨nma, sga, na, vn, vv, rfl, hna1, hna4, hnma, hva⟩ := ht
    have hb12 : Below w.heap.size w wc := (hb1.trans (hb2.mono hb1.size)).trans (hb3.mono (Nat.le_trans hb1.size hb2.size))
    have rc : Rep wc Nowhere b (.enm nma sga na vn vv) := ((r.old hb2).weaken fun _ _ h => h.elim).old hb3
    obtain ⟨vga, capa, hea⟩ := rc.enmRep hna1
    have HEA := Lib.hid hea
    obtain ⟨a0, a5, la, lva, ac⟩ := hea
    have AC := Lib.hid ac
    have hna0 : ¬ (na : Int) = 0 := by omega
    obtain ⟨i, hmod, hi⟩ : ∃ i : Nat, (jv : Int) % (na : Int) = (i : Int) ∧ i < na := ⟨jv % na, by simp, Nat.mod_lt _ (by omega)⟩
    have RC := Lib.hid rc
    have S := Lib.hid s
    have HU := Lib.hid hu
    have HB := Lib.hid hb12
    have HVA := Lib.hid hva
    clear rc s hu hb12 ac r s0 hu0 hb1 hb2 hb3 hva
    go_wp2_with fail
    have fenm : FT (.enm nma sga na vn vv) := .inl (.enm ⟨nma, sga, na, vn, vv, rfl, hna1, hna4, hnma, HVA.out⟩)
    have FENM := Lib.hid fenm
    clear fenm
    refine (listedT_of put_any b _ wc RC.out FENM.out.good.1 (by have := FENM.out.good.2; omega)).mono ?_
    rintro e w3 ⟨v1, n1, i1, xs1, D1, f1, rfl, rows1, hf1, rt1, hi1, hn1, hb4⟩
    have e1 : ((i1 + 1 : Nat) : Int) = (i1 : Int) + 1 := by omega
    rw [e1]
    obtain ⟨g1, cap1, rfl, hg1⟩ := own_form rows1.own (by omega)
    have ROWS1 := Lib.hid rows1.own
    have F1 := Lib.hid hf1
    have RT1 := Lib.hid rt1
    have B4 := Lib.hid hb4
    have hn1b : n1 ≤ 1000000 := by have := FENM.out.good.2; omega
    clear rows1 hf1 rt1 hb4 e1
    go_wp2_with fail
    refine (listedT_of put_any c u w3 (S.out.old B4.out) HU.out.good.1 (by have := HU.out.good.2; omega)).mono ?_
    rintro e w4 ⟨v2, n2, i2, xs2, D2, f2, rfl, rows2, hf2, rt2, hi2, hn2, hb5⟩
    have e2 : ((i2 + 1 : Nat) : Int) = (i2 : Int) + 1 := by omega
    rw [e2]
    obtain ⟨g2, cap2, rfl, hg2⟩ := own_form rows2.own (by omega)
    have ROWS2 := Lib.hid rows2.own
    have F2 := Lib.hid hf2
    have RT2 := Lib.hid rt2
    have B5 := Lib.hid hb5
    have hn2b : n2 ≤ 1000000 := by have := HU.out.good.2; omega
    have hbc4 : Below wc.heap.size wc w4 := B4.out.trans (hb5.mono B4.out.size)
    have BC4 := Lib.hid hbc4
    clear rows2 hf2 rt2 hb5 e2 hbc4
    cases ex with
    | true =>
      go_wp2_with fail
      refine (behind_any Nowhere c u w4 (((S.out.old B4.out).old B5.out))).mono ?_
      rintro e w5 ⟨c', rfl, rb, rfl⟩
      rcases HU.out.enum with hen | hen
      · have hbh : u.behind = u := by obtain ⟨nmb, sgb, q2, vn2, vv2, rfl, _⟩ := hen; rfl
        rw [hbh] at rb
        clear hbh
        obtain ⟨nmb, sgb, q2, vn2, vv2, rfl, hq1, hq4, hnmb, hvb⟩ := hen
        obtain ⟨vg2, capb, heb⟩ := rb.enmRep hq1
        obtain ⟨b0, b5, lb, lvb, bc⟩ := heb
        have BC := Lib.hid bc
        have HEN := Lib.hid hvb
        clear bc rb hvb
        have a5w := (BC4.out.cell (p := ⟨b, 5, none⟩) la).trans a5
        have hnw := (BC4.out.cell (p := ⟨vga, i * 5, none⟩) lva).trans (AC.out i hi).1
        have law := Nat.lt_of_lt_of_le la BC4.out.size
        have lvaw := Nat.lt_of_lt_of_le lva BC4.out.size
        obtain ⟨nm, hnm⟩ : ∃ nm, nm = vn i := ⟨_, rfl⟩
        rw [← hnm] at hnw
        have HNM := Lib.hid hnm
        clear hnm
        go_wp2_with fail
        go_loopg [21, 22, 69] q2 (fun gk s21 s22 s69 wr => ∃ k r, k ≤ q2 ∧ q2 - k ≤ gk ∧ s21 = .bool (Option.isSome r) ∧ s22 = .int .i64 (fndV vv2 r) ∧ s69 = .int .i64 (k : Int) ∧ FoundAt vn2 k nm r ∧ Below w4.heap.size w4 wr)
        case atStart => exact ⟨0, none, Nat.zero_le _, Nat.le_refl _, rfl, rfl, rfl, fun x h => absurd h (Nat.not_lt_zero x), Below.refl _ _⟩
        case round =>
          obtain ⟨k, r, hkq, hgk, rfl, rfl, rfl, hfnd, hb6⟩ := hrel
          have HFND := Lib.hid hfnd
          have HB6 := Lib.hid hb6
          clear hfnd
          by_cases hlt : k < q2
          · have a5r := (hb6.cell (p := ⟨b, 5, none⟩) law).trans a5w
            have anr := (hb6.cell (p := ⟨vga, i * 5, none⟩) lvaw).trans hnw
            obtain ⟨y0, y1, y2, y3, y4⟩ := BC.out k hlt
            have y0r := (hb6.cell (p := ⟨vg2, k * 5, none⟩) lvb).trans y0
            have y1r := (hb6.cell (p := ⟨vg2, k * 5 + 1, none⟩) lvb).trans y1
            have y2r := (hb6.cell (p := ⟨vg2, k * 5 + 2, none⟩) lvb).trans y2
            have y3r := (hb6.cell (p := ⟨vg2, k * 5 + 3, none⟩) lvb).trans y3
            have y4r := (hb6.cell (p := ⟨vg2, k * 5 + 4, none⟩) lvb).trans y4
            have lar := Nat.lt_of_lt_of_le law hb6.size
            have lvar := Nat.lt_of_lt_of_le lvaw hb6.size
            have lvbr := Nat.lt_of_lt_of_le lvb hb6.size
            clear y0 y1 y2 y3 y4 hb6
            have hii : (i : Int) < (na : Int) := by omega
            cases r with
            | some j =>
              by_cases heq : vn2 k = nm
              · have HEQ := Lib.hid heq
                have hc : ((vn2 k).toList == nm.toList) = true := by rw [heq]; simp
                clear heq
                go_wp2_with fail
                go_quiet (fail)
                go_wp2_with fail
                go_roundg (q2 - (k + 1))
                case measure => omega
                case rel => exact ⟨k + 1, some j, hlt, Nat.le_refl _, rfl, rfl, by go_num, HFND.out.keep, below_drewN (HB6.out.alloc HB6.out.size _) _⟩
              · have HEQ := Lib.hid heq
                have hc := toList_ne heq
                clear heq
                go_wp2_with fail
                go_quiet (fail)
                go_wp2_with fail
                go_roundg (q2 - (k + 1))
                case measure => omega
                case rel => exact ⟨k + 1, some j, hlt, Nat.le_refl _, rfl, rfl, by go_num, HFND.out.keep, below_drewN (HB6.out.alloc HB6.out.size _) _⟩
            | none =>
              by_cases heq : vn2 k = nm
              · have HEQ := Lib.hid heq
                have hc : ((vn2 k).toList == nm.toList) = true := by rw [heq]; simp
                clear heq
                go_wp2_with fail
                go_quiet (fail)
                go_wp2_with fail
                go_quiet (fail)
                go_wp2_with fail
                go_roundg (q2 - (k + 1))
                case measure => omega
                case rel => exact ⟨k + 1, some k, hlt, Nat.le_refl _, rfl, rfl, by go_num, HFND.out.hit HEQ.out, below_drewN (HB6.out.alloc HB6.out.size _) _⟩
              · have HEQ := Lib.hid heq
                have hc := toList_ne heq
                clear heq
                go_wp2_with fail
                go_quiet (fail)
                go_wp2_with fail
                go_roundg (q2 - (k + 1))
                case measure => omega
                case rel => exact ⟨k + 1, none, hlt, Nat.le_refl _, rfl, rfl, by go_num, HFND.out.miss HEQ.out, below_drewN (HB6.out.alloc HB6.out.size _) _⟩
          · obtain rfl : k = q2 := by omega
            obtain ⟨wB, rfl⟩ : ∃ wB : World, wB = wr := ⟨_, rfl⟩
            clear hb6
            cases r with
            | some j =>
              obtain ⟨z2, hz2⟩ : ∃ z, z = fndV vv2 (some j) := ⟨_, rfl⟩
              rw [← hz2]
              have hz2' : z2 = vv2 j := hz2
              have hz2b : 0 ≤ z2 ∧ z2 < 256 := by rw [hz2']; exact (HEN.out j HFND.out.1).2
              obtain ⟨z20, z21⟩ := hz2b
              have HZ2 := Lib.hid hz2'
              clear hz2 hz2'
              obtain ⟨wq, hwq⟩ : ∃ wq : World, wq = wB.alloc (.cells #[.int .i64 (i : Int)] 3) := ⟨_, rfl⟩
              have hXq : Below wB.heap.size wB wq := by rw [hwq]; exact (Below.refl _ _).alloc (Nat.le_refl _) _
              have hab : Blk wq wB.heap.size #[.int .i64 (i : Int)] 3 := by rw [hwq]; exact Blk.new _ _ _
              have h4q : Below w4.heap.size w4 wq := HB6.out.trans (hXq.mono HB6.out.size)
              have h3q : Below w3.heap.size w3 wq := B5.out.trans (h4q.mono B5.out.size)
              have hcq : Below wc.heap.size wc wq := BC4.out.trans (h4q.mono BC4.out.size)
              have hbq : Below w.heap.size w wq := HB.out.trans (hcq.mono HB.out.size)
              have hevq := (hbq.cell (p := ⟨4, 0, none⟩) le).trans hev
              have leq := Nat.lt_of_lt_of_le le hbq.size
              have own1 := ownsRow_of ROWS1.out fun x _ hl => h3q.block x hl
              have own2 := ownsRow_of ROWS2.out fun x _ hl => h4q.block x hl
              have fits1 : ∀ i, i < n1 → FitsD wq D1 xs1 n1 i (f1 i) := fun i hi => (F1.out i hi).kept h3q
              have fits2 : ∀ i, i < n2 → FitsD wq D2 xs2 n2 i (f2 i) := fun i hi => (F2.out i hi).kept h4q
              have hcalc : ∀ W og1 pt1 ob1 og2 pt2 ob2 ab' acap idn rs, Below wq.heap.size wq W → Outs W n1 f1 og1 pt1 ob1 → Outs W n2 f2 og2 pt2 ob2 → W.cell? ⟨ab', 0, none⟩ = some (.int .i64 (i : Int)) →
                  CalcC W (objAt pt1 ob1 i1) (.slice (some ⟨ab', 0, none⟩) 1 acap) 10 (.int .u32 idn) (objAt pt2 ob2 i2) rs 10 1 1 false false := by
                intro W og1 pt1 ob1 og2 pt2 ob2 ab' acap idn rs hBW o1 o2 hz W2 cb bo hB' hblk
                have lab := World.block_lt_of_cell? W _ hz
                have hac := (hB'.cell (p := ⟨ab', 0, none⟩) lab).trans hz
                have herr := (hB'.cell (p := ⟨4, 0, none⟩) (Nat.lt_of_lt_of_le leq hBW.size)).trans ((hBW.cell (p := ⟨4, 0, none⟩) leq).trans hevq)
                have lab2 := World.block_lt_of_cell? W2 _ hac
                have lerr2 := World.block_lt_of_cell? W2 _ herr
                have o1' := o1.ck (CellsKept.below hB')
                have o2' := o2.ck (CellsKept.below hB')
                obtain ⟨vo1, co1, oe1⟩ := o1'.enumObj hi1 RT1.out hna1
                have kk1 := RT1.out.enmK
                have kk2 := RT2.out.enmK
                obtain ⟨vo2, co2, oe2⟩ := o2'.enumObj hi2 RT2.out hq1
                have hF : FindC W2 (objAt pt1 ob1 i1) (.slice (some ⟨ab', 0, none⟩) 1 acap) (objAt pt2 ob2 i2) (findV vo1 i vo2 (.iface 228 (.pointer (some a))) (some j)) := fun W3 hb3 =>
                  find_enum (o1'.ck (CellsKept.below hb3)) (o2'.ck (CellsKept.below hb3)) hi1 hi2 (peels_of F1.out) (peels_of F2.out) kk1 kk2 (oe1.ck (CellsKept.below hb3)) hi ((hb3.cell (p := ⟨ab', 0, none⟩) lab2).trans hac) ((hb3.cell (p := ⟨4, 0, none⟩) lerr2).trans herr) (oe2.ck (CellsKept.below hb3))
                    (HVA.out i hi).1 (fun j hj => (HEN.out j hj).1) (by omega) (some j) (by rw [← HNM.out]; exact HFND.out)
                exact calc10_yes ⟨hblk, herr⟩ hF
              have HR := Lib.hid (relocated_any wq n1 cap1 g1 i1 n2 cap2 g2 i2 wB.heap.size xs1 xs2 D1 D2 f1 f2 (i : Int) 10 _ _ _ _ _ big own1 hn1b fits1 hi1 own2 hn2b fits2 hi2 hab (by omega) (by omega) hcalc)
              rw [hwq] at HR
              have Hcq := Lib.hid hcq
              have Hbq := Lib.hid hbq
              clear hcalc own1 own2 fits1 fits2 hab hevq hcq hbq h3q h4q hXq
              go_wp2_with fail
              refine HR.out.mono ?_
              rintro e w6 ⟨rfl, hb6⟩
              rw [← hwq] at hb6
              have HB9 := Lib.hid (Hbq.out.trans (hb6.mono Hbq.out.size))
              clear hb6
              go_wp2_with fail
              go_ret
              exact ⟨rfl, HB9.out⟩
            | none =>
              obtain ⟨wq, hwq⟩ : ∃ wq : World, wq = wB.alloc (.cells #[.int .i64 (i : Int)] 3) := ⟨_, rfl⟩
              have hXq : Below wB.heap.size wB wq := by rw [hwq]; exact (Below.refl _ _).alloc (Nat.le_refl _) _
              have hab : Blk wq wB.heap.size #[.int .i64 (i : Int)] 3 := by rw [hwq]; exact Blk.new _ _ _
              have h4q : Below w4.heap.size w4 wq := HB6.out.trans (hXq.mono HB6.out.size)
              have h3q : Below w3.heap.size w3 wq := B5.out.trans (h4q.mono B5.out.size)
              have hcq : Below wc.heap.size wc wq := BC4.out.trans (h4q.mono BC4.out.size)
              have hbq : Below w.heap.size w wq := HB.out.trans (hcq.mono HB.out.size)
              have hevq := (hbq.cell (p := ⟨4, 0, none⟩) le).trans hev
              have leq := Nat.lt_of_lt_of_le le hbq.size
              have own1 := ownsRow_of ROWS1.out fun x _ hl => h3q.block x hl
              have own2 := ownsRow_of ROWS2.out fun x _ hl => h4q.block x hl
              have fits1 : ∀ i, i < n1 → FitsD wq D1 xs1 n1 i (f1 i) := fun i hi => (F1.out i hi).kept h3q
              have fits2 : ∀ i, i < n2 → FitsD wq D2 xs2 n2 i (f2 i) := fun i hi => (F2.out i hi).kept h4q
              have hcalc : ∀ W og1 pt1 ob1 og2 pt2 ob2 ab' acap idn rs, Below wq.heap.size wq W → Outs W n1 f1 og1 pt1 ob1 → Outs W n2 f2 og2 pt2 ob2 → W.cell? ⟨ab', 0, none⟩ = some (.int .i64 (i : Int)) →
                  CalcC W (objAt pt1 ob1 i1) (.slice (some ⟨ab', 0, none⟩) 1 acap) 10 (.int .u32 idn) (objAt pt2 ob2 i2) rs 10 1 0 false false := by
                intro W og1 pt1 ob1 og2 pt2 ob2 ab' acap idn rs hBW o1 o2 hz W2 cb bo hB' hblk
                have lab := World.block_lt_of_cell? W _ hz
                have hac := (hB'.cell (p := ⟨ab', 0, none⟩) lab).trans hz
                have herr := (hB'.cell (p := ⟨4, 0, none⟩) (Nat.lt_of_lt_of_le leq hBW.size)).trans ((hBW.cell (p := ⟨4, 0, none⟩) leq).trans hevq)
                have lab2 := World.block_lt_of_cell? W2 _ hac
                have lerr2 := World.block_lt_of_cell? W2 _ herr
                have o1' := o1.ck (CellsKept.below hB')
                have o2' := o2.ck (CellsKept.below hB')
                obtain ⟨vo1, co1, oe1⟩ := o1'.enumObj hi1 RT1.out hna1
                have kk1 := RT1.out.enmK
                have kk2 := RT2.out.enmK
                obtain ⟨vo2, co2, oe2⟩ := o2'.enumObj hi2 RT2.out hq1
                have hF : FindC W2 (objAt pt1 ob1 i1) (.slice (some ⟨ab', 0, none⟩) 1 acap) (objAt pt2 ob2 i2) (findV vo1 i vo2 (.iface 228 (.pointer (some a))) none) := fun W3 hb3 =>
                  find_enum (o1'.ck (CellsKept.below hb3)) (o2'.ck (CellsKept.below hb3)) hi1 hi2 (peels_of F1.out) (peels_of F2.out) kk1 kk2 (oe1.ck (CellsKept.below hb3)) hi ((hb3.cell (p := ⟨ab', 0, none⟩) lab2).trans hac) ((hb3.cell (p := ⟨4, 0, none⟩) lerr2).trans herr) (oe2.ck (CellsKept.below hb3))
                    (HVA.out i hi).1 (fun j hj => (HEN.out j hj).1) (by omega) none (by rw [← HNM.out]; exact HFND.out)
                exact calc10_no ⟨hblk, herr⟩ hF
              have HR := Lib.hid (relocated_any wq n1 cap1 g1 i1 n2 cap2 g2 i2 wB.heap.size xs1 xs2 D1 D2 f1 f2 (i : Int) 10 _ _ _ _ _ big own1 hn1b fits1 hi1 own2 hn2b fits2 hi2 hab (by omega) (by omega) hcalc)
              rw [hwq] at HR
              have Hcq := Lib.hid hcq
              have Hbq := Lib.hid hbq
              clear hcalc own1 own2 fits1 fits2 hab hevq hcq hbq h3q h4q hXq
              go_wp2_with fail
              refine HR.out.mono ?_
              rintro e w6 ⟨rfl, hb6⟩
              rw [← hwq] at hb6
              have HB9 := Lib.hid (Hbq.out.trans (hb6.mono Hbq.out.size))
              clear hb6
              go_wp2_with fail
              go_ret
              exact ⟨rfl, HB9.out⟩
      · have kc := rb.kindCell
        have lb := rb.lt
        have k6 : ((u.behind.kind : Int) == 6) = false := by simp; omega
        have HEN := Lib.hid hen
        clear rb hen
        have HB6 : Hid (Below w4.heap.size w4 w4) := Lib.hid (Below.refl _ _)
        obtain ⟨wq, hwq⟩ : ∃ wq : World, wq = w4.alloc (.cells #[.int .i64 (i : Int)] 3) := ⟨_, rfl⟩
        have hXq : Below w4.heap.size w4 wq := by rw [hwq]; exact (Below.refl _ _).alloc (Nat.le_refl _) _
        have hab : Blk wq w4.heap.size #[.int .i64 (i : Int)] 3 := by rw [hwq]; exact Blk.new _ _ _
        have h4q : Below w4.heap.size w4 wq := HB6.out.trans (hXq.mono HB6.out.size)
        have h3q : Below w3.heap.size w3 wq := B5.out.trans (h4q.mono B5.out.size)
        have hcq : Below wc.heap.size wc wq := BC4.out.trans (h4q.mono BC4.out.size)
        have hbq : Below w.heap.size w wq := HB.out.trans (hcq.mono HB.out.size)
        have hevq := (hbq.cell (p := ⟨4, 0, none⟩) le).trans hev
        have leq := Nat.lt_of_lt_of_le le hbq.size
        have own1 := ownsRow_of ROWS1.out fun x _ hl => h3q.block x hl
        have own2 := ownsRow_of ROWS2.out fun x _ hl => h4q.block x hl
        have fits1 : ∀ i, i < n1 → FitsD wq D1 xs1 n1 i (f1 i) := fun i hi => (F1.out i hi).kept h3q
        have fits2 : ∀ i, i < n2 → FitsD wq D2 xs2 n2 i (f2 i) := fun i hi => (F2.out i hi).kept h4q
        have hcalc : ∀ W og1 pt1 ob1 og2 pt2 ob2 ab' acap idn rs, Below wq.heap.size wq W → Outs W n1 f1 og1 pt1 ob1 → Outs W n2 f2 og2 pt2 ob2 → W.cell? ⟨ab', 0, none⟩ = some (.int .i64 (i : Int)) →
            CalcC W (objAt pt1 ob1 i1) (.slice (some ⟨ab', 0, none⟩) 1 acap) 10 (.int .u32 idn) (objAt pt2 ob2 i2) rs 10 1 0 false false := by
          intro W og1 pt1 ob1 og2 pt2 ob2 ab' acap idn rs hBW o1 o2 hz W2 cb bo hB' hblk
          have lab := World.block_lt_of_cell? W _ hz
          have hac := (hB'.cell (p := ⟨ab', 0, none⟩) lab).trans hz
          have herr := (hB'.cell (p := ⟨4, 0, none⟩) (Nat.lt_of_lt_of_le leq hBW.size)).trans ((hBW.cell (p := ⟨4, 0, none⟩) leq).trans hevq)
          have lab2 := World.block_lt_of_cell? W2 _ hac
          have lerr2 := World.block_lt_of_cell? W2 _ herr
          have o1' := o1.ck (CellsKept.below hB')
          have o2' := o2.ck (CellsKept.below hB')
          obtain ⟨vo1, co1, oe1⟩ := o1'.enumObj hi1 RT1.out hna1
          have kk1 := RT1.out.enmK
          have kk2 : (f2 i2).k ≠ 6 := fun h6 => by
            have hk := (rt_kind HU.out RT2.out F2.out hi2).1
            have hun : und f2 i2 = i2 := if_neg (by omega)
            rw [hun, h6] at hk
            exact HEN.out (by omega)
          have hF : FindC W2 (objAt pt1 ob1 i1) (.slice (some ⟨ab', 0, none⟩) 1 acap) (objAt pt2 ob2 i2) (.tuple #[.pointer none, .pointer none, .iface 228 (.pointer (some a))]) := fun W3 hb3 =>
            find_other (o1'.ck (CellsKept.below hb3)) (o2'.ck (CellsKept.below hb3)) hi1 hi2 (peels_of F1.out) (peels_of F2.out) kk1 kk2 (oe1.ck (CellsKept.below hb3)) hi ((hb3.cell (p := ⟨ab', 0, none⟩) lab2).trans hac) ((hb3.cell (p := ⟨4, 0, none⟩) lerr2).trans herr)
          exact calc10_no ⟨hblk, herr⟩ hF
        have HR := Lib.hid (relocated_any wq n1 cap1 g1 i1 n2 cap2 g2 i2 w4.heap.size xs1 xs2 D1 D2 f1 f2 (i : Int) 10 _ _ _ _ _ big own1 hn1b fits1 hi1 own2 hn2b fits2 hi2 hab (by omega) (by omega) hcalc)
        rw [hwq] at HR
        have Hcq := Lib.hid hcq
        have Hbq := Lib.hid hbq
        clear hcalc own1 own2 fits1 fits2 hab hevq hcq hbq h3q h4q hXq
        go_wp2_with fail
        refine HR.out.mono ?_
        rintro e w6 ⟨rfl, hb6⟩
        rw [← hwq] at hb6
        have HB9 := Lib.hid (Hbq.out.trans (hb6.mono Hbq.out.size))
        clear hb6
        go_wp2_with fail
        go_ret
        exact ⟨rfl, HB9.out⟩
    | false =>
      go_wp2_with fail
      refine (behind_any Nowhere c u w4 (((S.out.old B4.out).old B5.out))).mono ?_
      rintro e w5 ⟨c', rfl, rb, rfl⟩
      rcases HU.out.enum with hen | hen
      · have hbh : u.behind = u := by obtain ⟨nmb, sgb, q2, vn2, vv2, rfl, _⟩ := hen; rfl
        rw [hbh] at rb
        clear hbh
        obtain ⟨nmb, sgb, q2, vn2, vv2, rfl, hq1, hq4, hnmb, hvb⟩ := hen
        obtain ⟨vg2, capb, heb⟩ := rb.enmRep hq1
        obtain ⟨b0, b5, lb, lvb, bc⟩ := heb
        have BC := Lib.hid bc
        have HEN := Lib.hid hvb
        clear bc rb hvb
        have a5w := (BC4.out.cell (p := ⟨b, 5, none⟩) la).trans a5
        have hnw := (BC4.out.cell (p := ⟨vga, i * 5, none⟩) lva).trans (AC.out i hi).1
        have law := Nat.lt_of_lt_of_le la BC4.out.size
        have lvaw := Nat.lt_of_lt_of_le lva BC4.out.size
        obtain ⟨nm, hnm⟩ : ∃ nm, nm = vn i := ⟨_, rfl⟩
        rw [← hnm] at hnw
        have HNM := Lib.hid hnm
        clear hnm
        go_wp2_with fail
        go_loopg [21, 22, 69] q2 (fun gk s21 s22 s69 wr => ∃ k r, k ≤ q2 ∧ q2 - k ≤ gk ∧ s21 = .bool (Option.isSome r) ∧ s22 = .int .i64 (fndV vv2 r) ∧ s69 = .int .i64 (k : Int) ∧ FoundAt vn2 k nm r ∧ Below w4.heap.size w4 wr)
        case atStart => exact ⟨0, none, Nat.zero_le _, Nat.le_refl _, rfl, rfl, rfl, fun x h => absurd h (Nat.not_lt_zero x), Below.refl _ _⟩
        case round =>
          obtain ⟨k, r, hkq, hgk, rfl, rfl, rfl, hfnd, hb6⟩ := hrel
          have HFND := Lib.hid hfnd
          have HB6 := Lib.hid hb6
          clear hfnd
          by_cases hlt : k < q2
          · have a5r := (hb6.cell (p := ⟨b, 5, none⟩) law).trans a5w
            have anr := (hb6.cell (p := ⟨vga, i * 5, none⟩) lvaw).trans hnw
            obtain ⟨y0, y1, y2, y3, y4⟩ := BC.out k hlt
            have y0r := (hb6.cell (p := ⟨vg2, k * 5, none⟩) lvb).trans y0
            have y1r := (hb6.cell (p := ⟨vg2, k * 5 + 1, none⟩) lvb).trans y1
            have y2r := (hb6.cell (p := ⟨vg2, k * 5 + 2, none⟩) lvb).trans y2
            have y3r := (hb6.cell (p := ⟨vg2, k * 5 + 3, none⟩) lvb).trans y3
            have y4r := (hb6.cell (p := ⟨vg2, k * 5 + 4, none⟩) lvb).trans y4
            have lar := Nat.lt_of_lt_of_le law hb6.size
            have lvar := Nat.lt_of_lt_of_le lvaw hb6.size
            have lvbr := Nat.lt_of_lt_of_le lvb hb6.size
            clear y0 y1 y2 y3 y4 hb6
            have hii : (i : Int) < (na : Int) := by omega
            cases r with
            | some j =>
              by_cases heq : vn2 k = nm
              · have HEQ := Lib.hid heq
                have hc : ((vn2 k).toList == nm.toList) = true := by rw [heq]; simp
                clear heq
                go_wp2_with fail
                go_quiet (fail)
                go_wp2_with fail
                go_roundg (q2 - (k + 1))
                case measure => omega
                case rel => exact ⟨k + 1, some j, hlt, Nat.le_refl _, rfl, rfl, by go_num, HFND.out.keep, below_drewN (HB6.out.alloc HB6.out.size _) _⟩
              · have HEQ := Lib.hid heq
                have hc := toList_ne heq
                clear heq
                go_wp2_with fail
                go_quiet (fail)
                go_wp2_with fail
                go_roundg (q2 - (k + 1))
                case measure => omega
                case rel => exact ⟨k + 1, some j, hlt, Nat.le_refl _, rfl, rfl, by go_num, HFND.out.keep, below_drewN (HB6.out.alloc HB6.out.size _) _⟩
            | none =>
              by_cases heq : vn2 k = nm
              · have HEQ := Lib.hid heq
                have hc : ((vn2 k).toList == nm.toList) = true := by rw [heq]; simp
                clear heq
                go_wp2_with fail
                go_quiet (fail)
                go_wp2_with fail
                go_quiet (fail)
                go_wp2_with fail
                go_roundg (q2 - (k + 1))
                case measure => omega
                case rel => exact ⟨k + 1, some k, hlt, Nat.le_refl _, rfl, rfl, by go_num, HFND.out.hit HEQ.out, below_drewN (HB6.out.alloc HB6.out.size _) _⟩
              · have HEQ := Lib.hid heq
                have hc := toList_ne heq
                clear heq
                go_wp2_with fail
                go_quiet (fail)
                go_wp2_with fail
                go_roundg (q2 - (k + 1))
                case measure => omega
                case rel => exact ⟨k + 1, none, hlt, Nat.le_refl _, rfl, rfl, by go_num, HFND.out.miss HEQ.out, below_drewN (HB6.out.alloc HB6.out.size _) _⟩
          · obtain rfl : k = q2 := by omega
            obtain ⟨wB, rfl⟩ : ∃ wB : World, wB = wr := ⟨_, rfl⟩
            clear hb6
            cases r with
            | some j =>
              obtain ⟨z2, hz2⟩ : ∃ z, z = fndV vv2 (some j) := ⟨_, rfl⟩
              rw [← hz2]
              have hz2' : z2 = vv2 j := hz2
              have hz2b : 0 ≤ z2 ∧ z2 < 256 := by rw [hz2']; exact (HEN.out j HFND.out.1).2
              obtain ⟨z20, z21⟩ := hz2b
              have HZ2 := Lib.hid hz2'
              clear hz2 hz2'
              obtain ⟨wq, hwq⟩ : ∃ wq : World, wq = wB.alloc (.cells #[.int .i64 (i : Int)] 3) := ⟨_, rfl⟩
              have hXq : Below wB.heap.size wB wq := by rw [hwq]; exact (Below.refl _ _).alloc (Nat.le_refl _) _
              have hab : Blk wq wB.heap.size #[.int .i64 (i : Int)] 3 := by rw [hwq]; exact Blk.new _ _ _
              have h4q : Below w4.heap.size w4 wq := HB6.out.trans (hXq.mono HB6.out.size)
              have h3q : Below w3.heap.size w3 wq := B5.out.trans (h4q.mono B5.out.size)
              have hcq : Below wc.heap.size wc wq := BC4.out.trans (h4q.mono BC4.out.size)
              have hbq : Below w.heap.size w wq := HB.out.trans (hcq.mono HB.out.size)
              have hevq := (hbq.cell (p := ⟨4, 0, none⟩) le).trans hev
              have leq := Nat.lt_of_lt_of_le le hbq.size
              have own1 := ownsRow_of ROWS1.out fun x _ hl => h3q.block x hl
              have own2 := ownsRow_of ROWS2.out fun x _ hl => h4q.block x hl
              have fits1 : ∀ i, i < n1 → FitsD wq D1 xs1 n1 i (f1 i) := fun i hi => (F1.out i hi).kept h3q
              have fits2 : ∀ i, i < n2 → FitsD wq D2 xs2 n2 i (f2 i) := fun i hi => (F2.out i hi).kept h4q
              have hcalc : ∀ W og1 pt1 ob1 og2 pt2 ob2 ab' acap idn rs, Below wq.heap.size wq W → Outs W n1 f1 og1 pt1 ob1 → Outs W n2 f2 og2 pt2 ob2 → W.cell? ⟨ab', 0, none⟩ = some (.int .i64 (i : Int)) →
                  CalcC W (objAt pt1 ob1 i1) (.slice (some ⟨ab', 0, none⟩) 1 acap) 11 (.int .u32 idn) (objAt pt2 ob2 i2) rs 11 (vv i) (vv2 j) false false := by
                intro W og1 pt1 ob1 og2 pt2 ob2 ab' acap idn rs hBW o1 o2 hz W2 cb bo hB' hblk
                have lab := World.block_lt_of_cell? W _ hz
                have hac := (hB'.cell (p := ⟨ab', 0, none⟩) lab).trans hz
                have herr := (hB'.cell (p := ⟨4, 0, none⟩) (Nat.lt_of_lt_of_le leq hBW.size)).trans ((hBW.cell (p := ⟨4, 0, none⟩) leq).trans hevq)
                have lab2 := World.block_lt_of_cell? W2 _ hac
                have lerr2 := World.block_lt_of_cell? W2 _ herr
                have o1' := o1.ck (CellsKept.below hB')
                have o2' := o2.ck (CellsKept.below hB')
                obtain ⟨vo1, co1, oe1⟩ := o1'.enumObj hi1 RT1.out hna1
                have kk1 := RT1.out.enmK
                have kk2 := RT2.out.enmK
                obtain ⟨vo2, co2, oe2⟩ := o2'.enumObj hi2 RT2.out hq1
                have hF : FindC W2 (objAt pt1 ob1 i1) (.slice (some ⟨ab', 0, none⟩) 1 acap) (objAt pt2 ob2 i2) (findV vo1 i vo2 (.iface 228 (.pointer (some a))) (some j)) := fun W3 hb3 =>
                  find_enum (o1'.ck (CellsKept.below hb3)) (o2'.ck (CellsKept.below hb3)) hi1 hi2 (peels_of F1.out) (peels_of F2.out) kk1 kk2 (oe1.ck (CellsKept.below hb3)) hi ((hb3.cell (p := ⟨ab', 0, none⟩) lab2).trans hac) ((hb3.cell (p := ⟨4, 0, none⟩) lerr2).trans herr) (oe2.ck (CellsKept.below hb3))
                    (HVA.out i hi).1 (fun j hj => (HEN.out j hj).1) (by omega) (some j) (by rw [← HNM.out]; exact HFND.out)
                have cx := (oe1.2.2.2 i hi).2
                have cz := (oe2.2.2.2 j HFND.out.1).2
                have hvi := (HVA.out i hi).2
                have hvj := (HEN.out j HFND.out.1).2
                rw [IntWalk.u64_in _ (by omega)] at cx cz
                exact calc11_yes cx cz ⟨hblk, herr⟩ hF
              have HR := Lib.hid (relocated_any wq n1 cap1 g1 i1 n2 cap2 g2 i2 wB.heap.size xs1 xs2 D1 D2 f1 f2 (i : Int) 11 _ _ _ _ _ big own1 hn1b fits1 hi1 own2 hn2b fits2 hi2 hab (by omega) (by omega) hcalc)
              rw [hwq] at HR
              have Hcq := Lib.hid hcq
              have Hbq := Lib.hid hbq
              clear hcalc own1 own2 fits1 fits2 hab hevq hcq hbq h3q h4q hXq
              go_wp2_with fail
              refine HR.out.mono ?_
              rintro e w6 ⟨rfl, hb6⟩
              rw [← hwq] at hb6
              have HB9 := Lib.hid (Hbq.out.trans (hb6.mono Hbq.out.size))
              have hc6 := Hcq.out.trans (hb6.mono Hcq.out.size)
              have a56 := (hc6.cell (p := ⟨b, 5, none⟩) la).trans a5
              have av6 := (hc6.cell (p := ⟨vga, i * 5 + 4, none⟩) lva).trans (AC.out i hi).2.2.2.2
              have la6 := Nat.lt_of_lt_of_le la hc6.size
              have lva6 := Nat.lt_of_lt_of_le lva hc6.size
              obtain ⟨z1, hz1⟩ : ∃ z, z = vv i := ⟨_, rfl⟩
              have hz1b : 0 ≤ z1 ∧ z1 < 256 := by rw [hz1]; exact (HVA.out i hi).2
              obtain ⟨z10, z11⟩ := hz1b
              rw [← hz1] at av6 ⊢
              rw [← HZ2.out]
              have hii : (i : Int) < (na : Int) := by omega
              clear hz1 hc6
              clear hb6
              go_wp2_with fail
              go_ret
              exact ⟨rfl, HB9.out⟩
            | none =>
              obtain ⟨wq, hwq⟩ : ∃ wq : World, wq = wB.alloc (.cells #[.int .i64 (i : Int)] 3) := ⟨_, rfl⟩
              have hXq : Below wB.heap.size wB wq := by rw [hwq]; exact (Below.refl _ _).alloc (Nat.le_refl _) _
              have hab : Blk wq wB.heap.size #[.int .i64 (i : Int)] 3 := by rw [hwq]; exact Blk.new _ _ _
              have h4q : Below w4.heap.size w4 wq := HB6.out.trans (hXq.mono HB6.out.size)
              have h3q : Below w3.heap.size w3 wq := B5.out.trans (h4q.mono B5.out.size)
              have hcq : Below wc.heap.size wc wq := BC4.out.trans (h4q.mono BC4.out.size)
              have hbq : Below w.heap.size w wq := HB.out.trans (hcq.mono HB.out.size)
              have hevq := (hbq.cell (p := ⟨4, 0, none⟩) le).trans hev
              have leq := Nat.lt_of_lt_of_le le hbq.size
              have own1 := ownsRow_of ROWS1.out fun x _ hl => h3q.block x hl
              have own2 := ownsRow_of ROWS2.out fun x _ hl => h4q.block x hl
              have fits1 : ∀ i, i < n1 → FitsD wq D1 xs1 n1 i (f1 i) := fun i hi => (F1.out i hi).kept h3q
              have fits2 : ∀ i, i < n2 → FitsD wq D2 xs2 n2 i (f2 i) := fun i hi => (F2.out i hi).kept h4q
              have hcalc : ∀ W og1 pt1 ob1 og2 pt2 ob2 ab' acap idn rs, Below wq.heap.size wq W → Outs W n1 f1 og1 pt1 ob1 → Outs W n2 f2 og2 pt2 ob2 → W.cell? ⟨ab', 0, none⟩ = some (.int .i64 (i : Int)) →
                  CalcC W (objAt pt1 ob1 i1) (.slice (some ⟨ab', 0, none⟩) 1 acap) 11 (.int .u32 idn) (objAt pt2 ob2 i2) rs 11 0 0 true false := by
                intro W og1 pt1 ob1 og2 pt2 ob2 ab' acap idn rs hBW o1 o2 hz W2 cb bo hB' hblk
                have lab := World.block_lt_of_cell? W _ hz
                have hac := (hB'.cell (p := ⟨ab', 0, none⟩) lab).trans hz
                have herr := (hB'.cell (p := ⟨4, 0, none⟩) (Nat.lt_of_lt_of_le leq hBW.size)).trans ((hBW.cell (p := ⟨4, 0, none⟩) leq).trans hevq)
                have lab2 := World.block_lt_of_cell? W2 _ hac
                have lerr2 := World.block_lt_of_cell? W2 _ herr
                have o1' := o1.ck (CellsKept.below hB')
                have o2' := o2.ck (CellsKept.below hB')
                obtain ⟨vo1, co1, oe1⟩ := o1'.enumObj hi1 RT1.out hna1
                have kk1 := RT1.out.enmK
                have kk2 := RT2.out.enmK
                obtain ⟨vo2, co2, oe2⟩ := o2'.enumObj hi2 RT2.out hq1
                have hF : FindC W2 (objAt pt1 ob1 i1) (.slice (some ⟨ab', 0, none⟩) 1 acap) (objAt pt2 ob2 i2) (findV vo1 i vo2 (.iface 228 (.pointer (some a))) none) := fun W3 hb3 =>
                  find_enum (o1'.ck (CellsKept.below hb3)) (o2'.ck (CellsKept.below hb3)) hi1 hi2 (peels_of F1.out) (peels_of F2.out) kk1 kk2 (oe1.ck (CellsKept.below hb3)) hi ((hb3.cell (p := ⟨ab', 0, none⟩) lab2).trans hac) ((hb3.cell (p := ⟨4, 0, none⟩) lerr2).trans herr) (oe2.ck (CellsKept.below hb3))
                    (HVA.out i hi).1 (fun j hj => (HEN.out j hj).1) (by omega) none (by rw [← HNM.out]; exact HFND.out)
                exact calc11_no ⟨hblk, herr⟩ hF
              have HR := Lib.hid (relocated_any wq n1 cap1 g1 i1 n2 cap2 g2 i2 wB.heap.size xs1 xs2 D1 D2 f1 f2 (i : Int) 11 _ _ _ _ _ big own1 hn1b fits1 hi1 own2 hn2b fits2 hi2 hab (by omega) (by omega) hcalc)
              rw [hwq] at HR
              have Hcq := Lib.hid hcq
              have Hbq := Lib.hid hbq
              clear hcalc own1 own2 fits1 fits2 hab hevq hcq hbq h3q h4q hXq
              go_wp2_with fail
              refine HR.out.mono ?_
              rintro e w6 ⟨rfl, hb6⟩
              rw [← hwq] at hb6
              have HB9 := Lib.hid (Hbq.out.trans (hb6.mono Hbq.out.size))
              clear hb6
              go_wp2_with fail
              go_ret
              exact ⟨rfl, HB9.out⟩
      · have kc := rb.kindCell
        have lb := rb.lt
        have k6 : ((u.behind.kind : Int) == 6) = false := by simp; omega
        have HEN := Lib.hid hen
        clear rb hen
        have HB6 : Hid (Below w4.heap.size w4 w4) := Lib.hid (Below.refl _ _)
        obtain ⟨wq, hwq⟩ : ∃ wq : World, wq = w4.alloc (.cells #[.int .i64 (i : Int)] 3) := ⟨_, rfl⟩
        have hXq : Below w4.heap.size w4 wq := by rw [hwq]; exact (Below.refl _ _).alloc (Nat.le_refl _) _
        have hab : Blk wq w4.heap.size #[.int .i64 (i : Int)] 3 := by rw [hwq]; exact Blk.new _ _ _
        have h4q : Below w4.heap.size w4 wq := HB6.out.trans (hXq.mono HB6.out.size)
        have h3q : Below w3.heap.size w3 wq := B5.out.trans (h4q.mono B5.out.size)
        have hcq : Below wc.heap.size wc wq := BC4.out.trans (h4q.mono BC4.out.size)
        have hbq : Below w.heap.size w wq := HB.out.trans (hcq.mono HB.out.size)
        have hevq := (hbq.cell (p := ⟨4, 0, none⟩) le).trans hev
        have leq := Nat.lt_of_lt_of_le le hbq.size
        have own1 := ownsRow_of ROWS1.out fun x _ hl => h3q.block x hl
        have own2 := ownsRow_of ROWS2.out fun x _ hl => h4q.block x hl
        have fits1 : ∀ i, i < n1 → FitsD wq D1 xs1 n1 i (f1 i) := fun i hi => (F1.out i hi).kept h3q
        have fits2 : ∀ i, i < n2 → FitsD wq D2 xs2 n2 i (f2 i) := fun i hi => (F2.out i hi).kept h4q
        have hcalc : ∀ W og1 pt1 ob1 og2 pt2 ob2 ab' acap idn rs, Below wq.heap.size wq W → Outs W n1 f1 og1 pt1 ob1 → Outs W n2 f2 og2 pt2 ob2 → W.cell? ⟨ab', 0, none⟩ = some (.int .i64 (i : Int)) →
            CalcC W (objAt pt1 ob1 i1) (.slice (some ⟨ab', 0, none⟩) 1 acap) 11 (.int .u32 idn) (objAt pt2 ob2 i2) rs 11 0 0 true false := by
          intro W og1 pt1 ob1 og2 pt2 ob2 ab' acap idn rs hBW o1 o2 hz W2 cb bo hB' hblk
          have lab := World.block_lt_of_cell? W _ hz
          have hac := (hB'.cell (p := ⟨ab', 0, none⟩) lab).trans hz
          have herr := (hB'.cell (p := ⟨4, 0, none⟩) (Nat.lt_of_lt_of_le leq hBW.size)).trans ((hBW.cell (p := ⟨4, 0, none⟩) leq).trans hevq)
          have lab2 := World.block_lt_of_cell? W2 _ hac
          have lerr2 := World.block_lt_of_cell? W2 _ herr
          have o1' := o1.ck (CellsKept.below hB')
          have o2' := o2.ck (CellsKept.below hB')
          obtain ⟨vo1, co1, oe1⟩ := o1'.enumObj hi1 RT1.out hna1
          have kk1 := RT1.out.enmK
          have kk2 : (f2 i2).k ≠ 6 := fun h6 => by
            have hk := (rt_kind HU.out RT2.out F2.out hi2).1
            have hun : und f2 i2 = i2 := if_neg (by omega)
            rw [hun, h6] at hk
            exact HEN.out (by omega)
          have hF : FindC W2 (objAt pt1 ob1 i1) (.slice (some ⟨ab', 0, none⟩) 1 acap) (objAt pt2 ob2 i2) (.tuple #[.pointer none, .pointer none, .iface 228 (.pointer (some a))]) := fun W3 hb3 =>
            find_other (o1'.ck (CellsKept.below hb3)) (o2'.ck (CellsKept.below hb3)) hi1 hi2 (peels_of F1.out) (peels_of F2.out) kk1 kk2 (oe1.ck (CellsKept.below hb3)) hi ((hb3.cell (p := ⟨ab', 0, none⟩) lab2).trans hac) ((hb3.cell (p := ⟨4, 0, none⟩) lerr2).trans herr)
          exact calc11_no ⟨hblk, herr⟩ hF
        have HR := Lib.hid (relocated_any wq n1 cap1 g1 i1 n2 cap2 g2 i2 w4.heap.size xs1 xs2 D1 D2 f1 f2 (i : Int) 11 _ _ _ _ _ big own1 hn1b fits1 hi1 own2 hn2b fits2 hi2 hab (by omega) (by omega) hcalc)
        rw [hwq] at HR
        have Hcq := Lib.hid hcq
        have Hbq := Lib.hid hbq
        clear hcalc own1 own2 fits1 fits2 hab hevq hcq hbq h3q h4q hXq
        go_wp2_with fail
        refine HR.out.mono ?_
        rintro e w6 ⟨rfl, hb6⟩
        rw [← hwq] at hb6
        have HB9 := Lib.hid (Hbq.out.trans (hb6.mono Hbq.out.size))
        clear hb6
        go_wp2_with fail
        go_ret
        exact ⟨rfl, HB9.out⟩
#print axioms FnValue_of
end Go.Proofs.YtfilbgmbmlmdbaaGreatDoor
