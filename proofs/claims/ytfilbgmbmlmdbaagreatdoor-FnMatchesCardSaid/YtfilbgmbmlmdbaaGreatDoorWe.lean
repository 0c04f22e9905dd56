/- Whether types match, by the package's own rule: joined. Nothing is claimed here. -/
import Derived.Test.YtfilbgmbmlmdbaaGreatDoorWc
import Derived.Stop.IfaceNil
import Derived.Test.YtfilbgmbmlmdbaaGreatDoorWd
import Derived.Test.YtfilbgmbmlmdbaaGreatDoorWa
namespace Go.Proofs.YtfilbgmbmlmdbaaGreatDoor
open Go.RowKit Go.MapKept

open Go.Extern.Stop Go.Stop Go.Extern in
theorem run_strictB {P : Program} {t asserted : TypeId} {want : Array (String × TypeId)} (hu : P.underlying asserted = some (.interface want)) (h : (P.info? t).map (fun i => (lacking want i.methods).isEmpty) = some true) (v : Value) (xT : TypeId) (w : World) :
    (Instr.typeAssert (.iface t v) xT asserted false).run P w = .ok (.iface t v) w := by
  obtain ⟨i, hi, hl⟩ := Option.map_eq_some_iff.1 h
  simp [Instr.typeAssert, run_underlying hu, typeInfo, hi, missingMethod_none (List.isEmpty_iff.1 hl)]
theorem strictCStruct (v : Value) (W : World) : (Instr.typeAssert (.iface 162 v) 77 177 false).run Tryz.prog W = .ok (.iface 162 v) W := run_strictB Tryz.underlying177 (by kernel_rfl) v _ W
theorem Aft.own {T : Two} {w0 w w' : World} {mv : Value} {mb sb : Nat} {S : Nat → Nat → Prop} {m : Value → Option Value} (h : Aft T w0 mv mb S w) (hg : w.grownBy w' (some sb)) (hne : sb ≠ mb) (hlo : w0.heap.size ≤ sb) (hm : IsMapOf w sb m) : Aft T w0 mv mb S w' := by
  have hc : CellsKept w w' := ⟨hg.size, fun g cs t z hx => hg.block g (Array.getElem?_eq_some_iff.1 hx).1 fun e => by
    obtain ⟨es, clock, hb, _⟩ := hm
    rw [Option.some.inj e] at hx
    rw [hb] at hx
    cases hx⟩
  obtain ⟨m', hv⟩ := h.vis
  refine ⟨⟨m', hv.mp.of_eq (hg.block mb hv.mp.lt fun e => hne (Option.some.inj e).symm), fun x u hx => ⟨(hv.keys x u hx).1.ck hc, (hv.keys x u hx).2⟩, hv.says⟩, ?_, h.whose, h.kept.trans hc⟩
  exact ⟨hg.os.trans h.but.os, hg.tape.trans h.but.tape, hg.output.trans h.but.output, Nat.le_trans h.but.size hg.size, fun k hk hx => (hg.block k (Nat.lt_of_lt_of_le hk h.but.size) fun e => by have := Option.some.inj e; omega).trans (h.but.block k hk hx)⟩
/-- The five cells of a member. -/
structure MemAt (w : World) (g i : Nat) (nm : ByteArray) (p : TypeId) (o : Nat) (a b : Int) : Prop where
  lt : g < w.heap.size
  c0 : w.cell? ⟨g, i * 5, none⟩ = some (.string nm)
  c1 : w.cell? ⟨g, i * 5 + 1, none⟩ = some (.iface p (.pointer (some ⟨o, 0, none⟩)))
  c2 : w.cell? ⟨g, i * 5 + 2, none⟩ = some (.int .u32 a)
  c3 : w.cell? ⟨g, i * 5 + 3, none⟩ = some (.int .u32 b)
  c4 : w.cell? ⟨g, i * 5 + 4, none⟩ = some (.slice none 0 0)
theorem MemAt.ck {w w' : World} {g i : Nat} {nm : ByteArray} {p : TypeId} {o : Nat} {a b : Int} (h : MemAt w g i nm p o a b) (hc : CellsKept w w') : MemAt w' g i nm p o a b :=
  ⟨Nat.lt_of_lt_of_le h.lt hc.size, hc.cell h.c0, hc.cell h.c1, hc.cell h.c2, hc.cell h.c3, hc.cell h.c4⟩
theorem any_found {n j : Nat} {nm : ByteArray} {vn : Nat → ByteArray} {q : Nat → Bool} (hj : j < n) (h : nm = vn j) (hd : ∀ x y, x < y → y < n → vn x ≠ vn y) : (anyB n fun j => nm == vn j && q j) = q j := by
  cases hq : q j with
  | true => exact (anyB_iff _ _).2 ⟨j, hj, by rw [h, bytes_same, hq]; rfl⟩
  | false =>
    cases ha : anyB n fun j => nm == vn j && q j with
    | false => rfl
    | true =>
      obtain ⟨x, hx, he⟩ := (anyB_iff _ _).1 ha
      rw [Bool.and_eq_true] at he
      have e : nm = vn x := (MapKept.bytes_beq _ _).1 he.1
      have : x = j := by
        rcases Nat.lt_trichotomy x j with h1 | h1 | h1
        · exact absurd (e.symm.trans h) (hd x j h1 hj)
        · exact h1
        · exact absurd (h.symm.trans e) (hd j x h1 hx)
      rw [this, hq] at he
      cases he.2
theorem any_none {n : Nat} {nm : ByteArray} {vn : Nat → ByteArray} {q : Nat → Bool} (h : ∀ j, j < n → nm ≠ vn j) : (anyB n fun j => nm == vn j && q j) = false := by
  cases ha : anyB n fun j => nm == vn j && q j with
  | false => rfl
  | true =>
    obtain ⟨x, hx, he⟩ := (anyB_iff _ _).1 ha
    rw [bytes_ne (h x hx)] at he
    cases he
/-- The map from names to members, so far. -/
structure NameMap (w : World) (sb k : Nat) (mn : Nat → ByteArray) (ag : Nat → Value) : Prop where
  mp : ∃ m, IsMapOf w sb m ∧ (∀ j, j < k → m (.string (mn j)) = some (ag j)) ∧ ∀ x u, m x = some u → ∃ j, j < k ∧ x = .string (mn j)
theorem NameMap.made {w : World} {sb : Nat} {mn : Nat → ByteArray} {ag : Nat → Value} (hz : sb = w.heap.size) : NameMap (w.alloc (.map #[] 0)) sb 0 mn ag := by
  subst hz
  exact ⟨⟨fun _ => none, IsMapOf.made w, fun j h => absurd h (Nat.not_lt_zero j), fun _ _ h => by cases h⟩⟩
theorem NameMap.of_eq {w w' : World} {sb k : Nat} {mn : Nat → ByteArray} {ag : Nat → Value} (h : NameMap w sb k mn ag) (e : w'.heap[sb]? = w.heap[sb]?) : NameMap w' sb k mn ag := by
  obtain ⟨m, h1, h2⟩ := h.mp; exact ⟨⟨m, h1.of_eq e, h2⟩⟩
theorem NameMap.push {w' : World} {sb k : Nat} {mn : Nat → ByteArray} {ag : Nat → Value} {mm : Value → Option Value} (hat : ∀ j, j < k → mm (.string (mn j)) = some (ag j)) (hall : ∀ x u, mm x = some u → ∃ j, j < k ∧ x = .string (mn j)) (hd : ∀ j, j < k → mn j ≠ mn k)
    (hm : ∀ m' : Value → Option Value, m' (.string (mn k)) = some (ag k) → (∀ y, y ≠ .string (mn k) → m' y = mm y) → IsMapOf w' sb m') : NameMap w' sb (k + 1) mn ag := by
  refine ⟨⟨moreKey mm (.string (mn k)) (ag k), hm _ (moreKey_at _ _ _) (moreKey_ne _ _ _), fun j hj => ?_, fun x u hx => ?_⟩⟩
  · by_cases h : j = k
    · rw [h]; exact moreKey_at _ _ _
    · rw [moreKey_ne _ _ _ _ (fun e => by simp only [Value.string.injEq] at e; exact hd j (by omega) e)]
      exact hat j (by omega)
  · by_cases h : x = .string (mn k)
    · exact ⟨k, Nat.lt_succ_self _, h⟩
    · rw [moreKey_ne _ _ _ _ h] at hx
      obtain ⟨j, hj, e⟩ := hall x u hx
      exact ⟨j, by omega, e⟩
theorem NameMap.lt {w : World} {sb k : Nat} {mn : Nat → ByteArray} {ag : Nat → Value} (h : NameMap w sb k mn ag) : sb < w.heap.size := by obtain ⟨m, h1, _⟩ := h.mp; exact h1.lt
section
variable {T : Two} {w : World} {x y : Value} {b c i j : Nat} {mv : Value} {S : Nat → Nat → Prop} {a : Addr}
set_option linter.unusedSimpArgs false in
set_option maxRecDepth 100000 in
set_option maxHeartbeats 8000000 in
theorem core_Str {nm1 nm2 : ByteArray} {q1 q2 cap1 cap2 : Nat} {u1 u2 : Option Addr} {mn1 mn2 : Nat → ByteArray} {mp1 mp2 : Nat → TypeId} {mo1 mo2 : Nat → Nat} {ma1 ma2 mb1 mb2 : Nat → Int} {qq : Nat → Nat → Bool}
    (hT : T.In w) (hi : i < T.n1) (hj : j < T.n2) (hpair : T.pair i j = .agg #[.iface 162 (.pointer (some ⟨b, 0, none⟩)), .iface 162 (.pointer (some ⟨c, 0, none⟩))])
    (hU1 : Calls Tryz.prog 65 #[x] w fun e w' => e = .returned (.iface 162 (.pointer (some ⟨b, 0, none⟩))) ∧ w' = w)
    (hU2 : Calls Tryz.prog 65 #[y] w fun e w' => e = .returned (.iface 162 (.pointer (some ⟨c, 0, none⟩))) ∧ w' = w)
    (hZ1 : Calls Tryz.prog 69 #[.iface 162 (.pointer (some ⟨b, 0, none⟩))] w fun e w' => e = .returned (.int .i64 5) ∧ w' = w)
    (hZ2 : Calls Tryz.prog 69 #[.iface 162 (.pointer (some ⟨c, 0, none⟩))] w fun e w' => e = .returned (.int .i64 5) ∧ w' = w)
    (hev : w.cell? ⟨3, 0, none⟩ = some (.iface 228 (.pointer (some a))))
    (hun : Unmet T w mv S (.agg #[.iface 162 (.pointer (some ⟨b, 0, none⟩)), .iface 162 (.pointer (some ⟨c, 0, none⟩))]))
    (x0 : w.cell? ⟨b, 0, none⟩ = some (.string nm1)) (y0 : w.cell? ⟨c, 0, none⟩ = some (.string nm2)) (l1 : nm1.size ≤ 2) (l2 : nm2.size ≤ 2)
    (x2 : w.cell? ⟨b, 2, none⟩ = some (.slice u1 q1 cap1)) (y2 : w.cell? ⟨c, 2, none⟩ = some (.slice u2 q2 cap2)) (hq1 : q1 ≤ 1000) (hq2 : q2 ≤ 1000)
    (r1 : ∀ k, k < q1 → ∃ g, u1 = some ⟨g, 0, none⟩ ∧ MemAt w g k (mn1 k) (mp1 k) (mo1 k) (ma1 k) (mb1 k)) (r2 : ∀ k, k < q2 → ∃ g, u2 = some ⟨g, 0, none⟩ ∧ MemAt w g k (mn2 k) (mp2 k) (mo2 k) (ma2 k) (mb2 k))
    (hdis : ∀ x y, x < y → y < q2 → mn2 x ≠ mn2 y)
    (hrec : ∀ k l, k < q1 → l < q2 → ∀ W mb, CellsKept w W → Vis T W (fun x y => (S x y ∨ (x = i ∧ y = j)) ∨ T.Done x y) mb →
      Calls Tryz.prog 47 #[.iface (mp1 k) (.pointer (some ⟨mo1 k, 0, none⟩)), .iface (mp2 l) (.pointer (some ⟨mo2 l, 0, none⟩)), .map (some mb)] W (MRes T (.map (some mb)) (fun x y => (S x y ∨ (x = i ∧ y = j)) ∨ T.Done x y) (qq k l) (.iface 228 (.pointer (some a))) W))
    (he : ess nm1 nm2 = true) (hd : (decide (q1 ≤ q2) && allB q1 fun k => anyB q2 fun l => mn1 k == mn2 l && qq k l) = true → T.Done i j) :
    Calls Tryz.prog 47 #[x, y, mv] w (MRes T mv S (decide (q1 ≤ q2) && allB q1 fun k => anyB q2 fun l => mn1 k == mn2 l && qq k l) (.iface 228 (.pointer (some a))) w) := by
  have lb := World.block_lt_of_cell? w _ x0
  have lc := World.block_lt_of_cell? w _ y0
  simp only at lb lc
  obtain ⟨R, hR⟩ : ∃ R, R = (decide (q1 ≤ q2) && allB q1 fun k => anyB q2 fun l => mn1 k == mn2 l && qq k l) := ⟨_, rfl⟩
  rw [← hR] at hd ⊢
  have HRR := Lib.hid hR
  have HREC := Lib.hid hrec
  have HD := Lib.hid hd
  have HR1 := Lib.hid r1
  have HR2 := Lib.hid r2
  have HDIS := Lib.hid hdis
  clear hR hrec hd r1 r2 hdis
  have le := World.block_lt_of_cell? w _ hev
  simp only at le
  have hkey : PairKey w (.agg #[.iface 162 (.pointer (some ⟨b, 0, none⟩)), .iface 162 (.pointer (some ⟨c, 0, none⟩))]) := hpair ▸ hT.h1.pairKey hT.h2 hi hj
  have HT := Lib.hid hT
  have HU1 := Lib.hid hU1
  have HU2 := Lib.hid hU2
  have HZ1 := Lib.hid hZ1
  have HZ2 := Lib.hid hZ2
  obtain ⟨B, hEG, hB, hB1, hB0⟩ := hun.test
  have HB1 := Lib.hid hB1
  have HB0 := Lib.hid hB0
  have HUN := Lib.hid hun
  have HP := Lib.hid hpair
  clear hT hU1 hU2 hZ1 hZ2 hun hpair hB1 hB0
  go_enter Tryz.func47, Tryz.ntmps47
  go_wp2_with fail
  refine HU1.out.mono ?_
  rintro e w9 ⟨rfl, rfl⟩
  go_wp2_with fail
  refine HU2.out.mono ?_
  rintro e w8 ⟨rfl, rfl⟩
  go_wp2_with fail
  refine (name_Struct _ _ _ x0).mono ?_
  rintro e w7 ⟨rfl, rfl⟩
  go_wp2_with fail
  refine (name_Struct _ _ _ y0).mono ?_
  rintro e w6 ⟨rfl, rfl⟩
  go_wp2_with fail
  refine (names_any _ _ _ (by first | assumption | decide) (by first | assumption | decide)).mono ?_
  rintro e w5 ⟨rfl, rfl⟩
  rw [he]
  go_wp2_with fail
  refine HZ1.out.mono ?_
  rintro e w4 ⟨rfl, rfl⟩
  go_wp2_with fail
  refine HZ2.out.mono ?_
  rintro e w3 ⟨rfl, rfl⟩
  go_upto_if 65 with (at_lookup; refine wpList_look_un HUN.out rfl _ _ rfl rfl rfl hkey ?_)
  have hmm := @run_makeMap Tryz.prog
  go_cut [2] (fun s2 wx => Hid (Ready T w3 mv S (T.pair i j) s2 wx))
  case first =>
    cases B with
    | true =>
      have hmv := HB1.out rfl
      go_wp2_with fail
      go_meet
      refine Lib.hid ?_
      rw [hmv]
      exact Ready.made (by simp) ((Below.refl _ _).alloc (Nat.le_refl _) _)
    | false =>
      obtain ⟨mb, m, hmv, hmi, hn⟩ := HB0.out rfl
      go_wp2_with fail
      go_meet
      refine Lib.hid ?_
      rw [hmv]
      exact Ready.had hmi (by rw [HP.out]; exact hn) ((Below.refl _ _).alloc (Nat.le_refl _) _)
  case rest =>
    obtain ⟨mb, m, rfl, hmi, hn, hbm, hwh, hck⟩ := hcut.out
    rw [HP.out] at hn
    have hk1 := hkey.ck hck
    have K := pair_keys wc
    have hkeys := fun x u h => (hmi.keys x u h).1
    go_upto_region 13 with (at_mapUpdate; refine wpList_store rfl _ _ _ rfl Tryz.underlying157 K rfl hmi.mp hkeys _ (.agg #[]) rfl rfl hk1 hn ?_; intro w2 hg hs hm2)
    have AF := Lib.hid (Ready.entered HT.out hi hj HP.out hmi hbm hwh hck hg hm2)
    clear hmi hn hbm hwh hck hk1 K hkeys hg hs hm2 hcut
    have kx2 := AF.out.kept.cell x2
    have ky2 := AF.out.kept.cell y2
    have q0 := taNoVoid 162 (by decide)
    have q1' := taNoFwd 162 (by decide)
    have q2' := taNoEnum 162 (by decide)
    have q3 := hasCStruct
    have q4 := strictCStruct
    go_wp2_with fail
    refine (members_Struct _ b _ kx2).mono ?_
    rintro e w1 ⟨rfl, rfl⟩
    go_wp2_with fail
    refine (members_Struct _ c _ ky2).mono ?_
    rintro e w1 ⟨rfl, rfl⟩
    have klc := Nat.lt_of_lt_of_le lc AF.out.kept.size
    by_cases hle : q1 ≤ q2
    · have hgt : ¬ (q2 : Int) < q1 := by omega
      have hgt2 : decide (q2 < q1) = false := decide_eq_false (by omega)
      have HLE := Lib.hid hle
      clear hle
      go_wp2_with fail
      refine (members_Struct _ b _ kx2).mono ?_
      rintro e w5' ⟨rfl, rfl⟩
      go_wp2_with fail
      refine (members_Struct _ c _ ((((Below.refl _ _).alloc (Nat.le_refl _) _).cell (p := ⟨c, 2, none⟩) klc).trans ky2)).mono ?_
      rintro e wY ⟨rfl, hwY⟩
      have AFY : Hid (Aft T w3 mv mb (fun x y => S x y ∨ (x = i ∧ y = j)) wY) := Lib.hid (by rw [hwY]; exact AF.out.below ((Below.refl _ _).alloc (Nat.le_refl _) _))
      obtain ⟨sb, hsb⟩ : ∃ sb, sb = w5'.heap.size := ⟨_, rfl⟩
      have HNM : Hid (NameMap wY sb 0 mn2 (fun k => .agg #[.string (mn2 k), .iface (mp2 k) (.pointer (some ⟨mo2 k, 0, none⟩)), .int .u32 (ma2 k), .int .u32 (mb2 k), .slice none 0 0])) := Lib.hid (by rw [hwY]; exact NameMap.made hsb)
      have hsm : sb ≠ mb := by obtain ⟨m', hv⟩ := AF.out.vis; have := hv.mp.lt; omega
      have hslo : w3.heap.size ≤ sb := by rw [hsb]; exact AF.out.kept.size
      rw [← hsb]
      clear AF hwY hsb kx2 ky2 klc
      go_wp2_with fail
      go_loopg [117] q2 (fun gk s117 wr => ∃ k : Nat, k ≤ q2 ∧ q2 - k ≤ gk ∧ s117 = .int .i64 (k : Int) ∧ Hid (Aft T w3 mv mb (fun x y => S x y ∨ (x = i ∧ y = j)) wr) ∧
        Hid (NameMap wr sb k mn2 (fun k => .agg #[.string (mn2 k), .iface (mp2 k) (.pointer (some ⟨mo2 k, 0, none⟩)), .int .u32 (ma2 k), .int .u32 (mb2 k), .slice none 0 0])))
      case atStart => exact ⟨0, Nat.zero_le _, Nat.le_refl _, rfl, AFY, HNM⟩
      case round =>
        clear AFY HNM
        obtain ⟨k, hk, hgk, rfl, AF, HNM⟩ := hrel
        by_cases hlt : k < q2
        · obtain ⟨g, rfl, hm⟩ := HR2.out k hlt
          obtain ⟨f5, f0, f1, f2, f3, f4⟩ := hm.ck AF.out.kept
          obtain ⟨mm, hmp, hat, hall⟩ := HNM.out.mp
          have hG : ∀ x u, mm x = some u → StrKey x := fun x u hx => by obtain ⟨l, _, e⟩ := hall x u hx; exact ⟨_, e⟩
          have hn : mm (.string (mn2 k)) = none := by
            cases hx : mm (.string (mn2 k)) with
            | none => rfl
            | some u =>
              obtain ⟨l, hl, e⟩ := hall _ _ hx
              simp only [Value.string.injEq] at e
              exact absurd e.symm (HDIS.out l k hl hlt)
          have hmpA := hmp.alloc (.cells #[.string (mn2 k), .iface (mp2 k) (.pointer (some ⟨mo2 k, 0, none⟩)), .int .u32 (ma2 k), .int .u32 (mb2 k), .slice none 0 0] 189)
          have HAT := Lib.hid hat
          have HALL := Lib.hid hall
          clear hm hmp hat hall
          go_wp2_with (at_mapUpdate; refine wpList_storeS rfl _ _ _ rfl Tryz.underlying187 Tryz.underlying9 rfl hmpA hG _ _ rfl rfl ⟨_, rfl⟩ hn ?_; intro w6' hg6 hs6 hm6)
          have AF6 := Lib.hid ((AF.out.below ((Below.refl _ _).alloc (Nat.le_refl _) _)).own hg6 hsm hslo hmpA)
          go_roundg (q2 - (k + 1))
          case measure => omega
          case rel => exact ⟨k + 1, hlt, Nat.le_refl _, by go_num, AF6, Lib.hid (NameMap.push HAT.out HALL.out (fun l hl => HDIS.out l k hl hlt) hm6)⟩
        · obtain rfl : k = q2 := by omega
          have S2 : Hid (Aft T w3 mv mb (fun x y => (S x y ∨ (x = i ∧ y = j)) ∨ T.Done x y) wr) := Lib.hid ⟨AF.out.vis.mono fun _ _ h => .inl h, AF.out.but, AF.out.whose, AF.out.kept⟩
          have hz : ∀ W : World, (zeroValue 189).run Tryz.prog W = .ok (.agg #[.string ⟨#[]⟩, .nilIface, .int .u32 0, .int .u32 0, .slice none 0 0]) W := fun W => by kernel_rfl
          clear AF
          go_wp2_with fail
          go_loopg [128] q1 (fun gk s128 wx => ∃ l : Nat, l ≤ q1 ∧ q1 - l ≤ gk ∧ s128 = .int .i64 (l : Int) ∧ Hid (Aft T w3 mv mb (fun x y => (S x y ∨ (x = i ∧ y = j)) ∨ T.Done x y) wx) ∧
            Hid (NameMap wx sb k mn2 (fun k => .agg #[.string (mn2 k), .iface (mp2 k) (.pointer (some ⟨mo2 k, 0, none⟩)), .int .u32 (ma2 k), .int .u32 (mb2 k), .slice none 0 0])) ∧ Hid (allB l (fun i => anyB k fun j => mn1 i == mn2 j && qq i j) = true))
          case atStart => exact ⟨0, Nat.zero_le _, Nat.le_refl _, rfl, S2, HNM, Lib.hid rfl⟩
          case round =>
            clear S2 HNM
            obtain ⟨l, hl, hgl, rfl, AF, HNM, HA⟩ := hrel
            by_cases hll : l < q1
            · obtain ⟨g, rfl, hm⟩ := HR1.out l hll
              obtain ⟨f5, f0, f1, f2, f3, f4⟩ := hm.ck AF.out.kept
              obtain ⟨mm, hmp, hat, hall⟩ := HNM.out.mp
              have hG : ∀ x u, mm x = some u → StrKey x := fun x u hx => by obtain ⟨l, _, e⟩ := hall x u hx; exact ⟨_, e⟩
              have hmpA := hmp.alloc (.cells #[.string (mn1 l), .iface (mp1 l) (.pointer (some ⟨mo1 l, 0, none⟩)), .int .u32 (ma1 l), .int .u32 (mb1 l), .slice none 0 0] 189)
              have hzA := hz (wr.alloc (.cells #[.string (mn1 l), .iface (mp1 l) (.pointer (some ⟨mo1 l, 0, none⟩)), .int .u32 (ma1 l), .int .u32 (mb1 l), .slice none 0 0] 189))
              by_cases hf : ∃ t, t < k ∧ mn1 l = mn2 t
              · obtain ⟨t, ht, hnt⟩ := hf
                have hx := hat t ht
                rw [← hnt] at hx
                have HNT := Lib.hid hnt
                clear hm hmp hat hall hnt
                go_wp2_with (at_lookup; refine wpList_lookS rfl _ _ rfl Tryz.underlying187 hzA Tryz.underlying9 rfl hmpA hG _ rfl ⟨_, rfl⟩ _ hx ?_)
                have hbb := (((Below.refl wr.heap.size wr).alloc (Nat.le_refl _) (.cells #[.string (mn1 l), .iface (mp1 l) (.pointer (some ⟨mo1 l, 0, none⟩)), .int .u32 (ma1 l), .int .u32 (mb1 l), .slice none 0 0] 189)).alloc (by simp) (.cells #[.string (mn1 l), .iface (mp2 t) (.pointer (some ⟨mo2 t, 0, none⟩)), .int .u32 (ma2 t), .int .u32 (mb2 t), .slice none 0 0] 189))
                have AF7 := Lib.hid (AF.out.below hbb)
                have HN7 := Lib.hid (HNM.out.of_eq (hbb.block sb HNM.out.lt))
                clear hbb
                have HAF := HA
                refine (HREC.out l t hll ht _ mb AF7.out.kept AF7.out.vis).mono ?_
                rintro e w8' ⟨hres, hext⟩
                have HANY : Hid (anyB k (fun j => mn1 l == mn2 j && qq l j) = qq l t) := Lib.hid (any_found ht HNT.out HDIS.out)
                rcases hres with ⟨hqt, rfl, hv⟩ | ⟨hqf, rfl⟩
                · have AF8 := Lib.hid (AF7.out.call (hext.had _ rfl) ((hv _ rfl).mono fun _ _ h => h.elim id .inr))
                  have HN8 := Lib.hid (HN7.out.of_eq ((hext.had _ rfl).block sb HN7.out.lt hsm))
                  have HA8 : Hid (allB (l + 1) (fun i => anyB k fun j => mn1 i == mn2 j && qq i j) = true) := Lib.hid (by rw [allB_succ, HA.out, HANY.out, hqt]; rfl)
                  clear hv hext hqt
                  go_wp2_with fail
                  go_roundg (q1 - (l + 1))
                  case measure => omega
                  case rel => exact ⟨l + 1, hll, Nat.le_refl _, by go_num, AF8, HN8, HA8⟩
                · have HX := Lib.hid (AF7.out.extCall (hext.had _ rfl))
                  have HRF : Hid (R = false) := Lib.hid (by rw [HRR.out, allB_false hll (HANY.out.trans hqf), Bool.and_false])
                  clear hext hqf
                  go_wp2_with fail
                  go_ret
                  exact ⟨.inr ⟨HRF.out, rfl⟩, HX.out⟩
              · have hno : mm (.string (mn1 l)) = none := by
                  cases hx : mm (.string (mn1 l)) with
                  | none => rfl
                  | some u =>
                    obtain ⟨t, ht, e⟩ := hall _ _ hx
                    simp only [Value.string.injEq] at e
                    exact absurd ⟨t, ht, e⟩ hf
                have HRF : Hid (R = false) := Lib.hid (by rw [HRR.out, allB_false hll (any_none fun j hj e => hf ⟨j, hj, e⟩), Bool.and_false])
                have hev1 := AF.out.kept.cell hev
                have le1 := Nat.lt_of_lt_of_le le AF.out.kept.size
                clear hm hmp hat hall hf
                go_wp2_with (at_lookup; refine wpList_lookS rfl _ _ rfl Tryz.underlying187 hzA Tryz.underlying9 rfl hmpA hG _ rfl ⟨_, rfl⟩ _ hno ?_)
                go_ret
                rw [HRF.out]
                exact (AF.out.below (((Below.refl wr.heap.size wr).alloc (Nat.le_refl _) _).alloc (by simp) _)).no
            · obtain rfl : l = q1 := by omega
              have HRT : Hid (R = true) := Lib.hid (by rw [HRR.out, HA.out, decide_eq_true HLE.out]; rfl)
              go_wp2_with fail
              go_ret
              rw [HRT.out]
              exact AF.out.yes fun x y h => h.elim (fun h => h.imp id fun h => by rw [h.1, h.2]; exact HD.out HRT.out) .inr
    · have hgt : (q2 : Int) < q1 := by omega
      have hgt2 : decide (q2 < q1) = true := decide_eq_true (by omega)
      have HRF : Hid (R = false) := Lib.hid (by rw [HRR.out, decide_eq_false hle, Bool.false_and])
      have hev1 := AF.out.kept.cell hev
      have le1 := Nat.lt_of_lt_of_le le AF.out.kept.size
      clear hle
      go_wp2_with fail
      go_ret
      rw [HRF.out]
      exact AF.out.no
end
end Go.Proofs.YtfilbgmbmlmdbaaGreatDoor

namespace Go.Proofs.YtfilbgmbmlmdbaaGreatDoor
open Go.RowKit Go.MapKept

def tname : Ty → ByteArray
  | .int _ _ nm => nm
  | .enm nm _ _ _ _ => nm
  | .comp _ nm _ _ _ _ _ _ => nm
  | _ => ⟨#[]⟩
theorem ess_nothing : ess ⟨#[]⟩ ⟨#[]⟩ = true := rfl
theorem tm_name {t u : Ty} (h : ess (tname t.behind) (tname u.behind) = false) : tm t u = false := by
  rw [← tm_behind_left, ← tm_behind_right]
  have ht := behind_kinds t
  have hu := behind_kinds u
  generalize t.behind = a at h ht ⊢
  generalize u.behind = b at h hu ⊢
  cases a with
  | named => exact absurd rfl ht.1
  | cst => exact absurd rfl ht.2
  | int =>
    cases b with
    | named => exact absurd rfl hu.1
    | cst => exact absurd rfl hu.2
    | int => simp only [tname] at h; simp only [tm, Ty.behind, h, Bool.false_and]
    | _ => rfl
  | ptr =>
    cases b with
    | named => exact absurd rfl hu.1
    | cst => exact absurd rfl hu.2
    | ptr => cases h
    | _ => rfl
  | arr =>
    cases b with
    | named => exact absurd rfl hu.1
    | cst => exact absurd rfl hu.2
    | arr => cases h
    | _ => rfl
  | enm =>
    cases b with
    | named => exact absurd rfl hu.1
    | cst => exact absurd rfl hu.2
    | enm => simp only [tname] at h; simp only [tm, Ty.behind, h, Bool.false_and]
    | _ => rfl
  | comp un =>
    cases b with
    | named => exact absurd rfl hu.1
    | cst => exact absurd rfl hu.2
    | comp un' => simp only [tname] at h; simp only [tm, Ty.behind, h, Bool.false_and, Bool.and_false]
    | _ => rfl
/-- What rows refer to is there. -/
structure Refs (n : Nat) (f : Nat → RowD) : Prop where
  of_ : ∀ i, i < n → (f i).of ≤ n
  ix_ : ∀ i, i < n → (f i).ix ≤ n
  mem : ∀ i, i < n → ∀ j, j < (f i).q → ∀ nm (o : Nat) a b v, PRow (f i).ys j nm (.int .i64 (o : Int)) a b v → o ≤ n
theorem refs_of {w : World} {D : Nat → Prop} {xs : List Value} {n : Nat} {f : Nat → RowD} (hf : ∀ i, i < n → FitsD w D xs n i (f i)) : Refs n f := by
  refine ⟨fun i hi => (hf i hi).hof, fun i hi => (hf i hi).hix, fun i hi j hj nm o a b v hp => ?_⟩
  obtain ⟨nm', o', a', b', v', hp', ho, _⟩ := (hf i hi).mem j hj
  have e := (hp.uniq2 hp').2
  simp only [Value.int.injEq, true_and] at e
  omega
/-- How a type's name is told. -/
structure NameC (w : World) (p : TypeId) (b : Nat) (F : FuncId) (nm : ByteArray) : Prop where
  m : ∀ W : World, (Go.method 419 p (.pointer (some ⟨b, 0, none⟩)) "TypeName").run Tryz.prog W = .ok (F, .pointer (some ⟨b, 0, none⟩)) W
  c : ∀ W : World, (callFunc F #[.pointer (some ⟨b, 0, none⟩)]).run Tryz.prog W = .ok (.enter F #[.pointer (some ⟨b, 0, none⟩)]) W
  n : Calls Tryz.prog F #[.pointer (some ⟨b, 0, none⟩)] w fun e w' => e = .returned (.string nm) ∧ w' = w
section
variable {w : World} {n og i : Nat} {f : Nat → RowD} {pt : Nat → TypeId} {ob : Nat → Nat}
theorem Outs.intC (h : Outs w n f og pt ob) (hi : i < n) {sz : Nat} {sg : Bool} {nm : ByteArray} (r : RT f i (.int sz sg nm)) :
    pt (i + 1) = 151 ∧ w.cell? ⟨ob (i + 1), 0, none⟩ = some (.string nm) ∧ w.cell? ⟨ob (i + 1), 1, none⟩ = some (.int .u32 (sz : Int)) ∧ w.cell? ⟨ob (i + 1), 2, none⟩ = some (.int .u8 (if sg then 1 else 0)) := by
  obtain ⟨cs, cs0, ty, lo, hob, hbk, hful⟩ := h.full i hi
  cases r with
  | int hk hn hs he =>
    refine ⟨(h.kindOf hi hk).1 rfl, ?_⟩
    rw [hk, hn, hs, he] at hful
    cases hful with
    | str hk' _ _ => omega
    | int => exact ⟨hbk.cell 0, hbk.cell 1, hbk.cell 2⟩
theorem Outs.enmC (h : Outs w n f og pt ob) (hi : i < n) {q : Nat} {nm : ByteArray} {sg : Bool} {vn : Nat → ByteArray} {vv : Nat → Int} (r : RT f i (.enm nm sg q vn vv)) :
    pt (i + 1) = 144 ∧ w.cell? ⟨ob (i + 1), 0, none⟩ = some (.string nm) ∧ w.cell? ⟨ob (i + 1), 1, none⟩ = some (.int .u32 4) := by
  obtain ⟨cs, cs0, ty, lo, hob, hbk, hful⟩ := h.full i hi
  cases r with
  | enm hk hn hs hl hqq hr =>
    refine ⟨(h.kindOf hi hk).2.2.2.2.2 rfl, ?_⟩
    rw [hk, hn, hs] at hful
    cases hful with
    | str hk' _ _ => omega
    | enm ho he => exact ⟨hbk.cell 0, hbk.cell 1⟩
theorem Outs.strC (h : Outs w n f og pt ob) (hR : Refs n f) (hi : i < n) {sz q : Nat} {nm : ByteArray} {pn : Nat → ByteArray} {py : Nat → Ty} {pa pb : Nat → Nat} (r : RT f i (.comp false nm sz q pn py pa pb)) :
    pt (i + 1) = 162 ∧ w.cell? ⟨ob (i + 1), 0, none⟩ = some (.string nm) ∧ ∃ (u : Option Addr) (cap : Nat) (pc : Nat → Nat), w.cell? ⟨ob (i + 1), 2, none⟩ = some (.slice u q cap) ∧
      ∀ k, k < q → pc k < n ∧ RT f (pc k) (py k) ∧ ∃ g, u = some ⟨g, 0, none⟩ ∧ MemAt w g k (pn k) (pt (pc k + 1)) (ob (pc k + 1)) (pa k : Nat) (pb k : Nat) := by
  have h0 := h
  obtain ⟨cs, cs0, ty, lo, hob, hbk, hful⟩ := h.full i hi
  cases r with
  | @comp _ _ _ _ _ _ _ _ _ pc hk hn hs hqq hr hr2 =>
    have hk4 : (f i).k = 4 := hk
    refine ⟨(h.kindOf hi hk4).2.2.2.1 rfl, ?_⟩
    have hmem := hR.mem i hi
    rw [hk4, hn, hs, hqq] at hful
    rw [hqq] at hmem
    cases hful with
    | str hk' ho hb =>
      refine ⟨hbk.cell 0, ?_⟩
      obtain ⟨u, cap, rfl⟩ := own_slice ho
      refine ⟨u, cap, pc, hbk.cell 2, fun k hk => ?_⟩
      have hoc := hmem k hk _ _ _ _ _ (hr k hk)
      refine ⟨by omega, hr2 k hk, ?_⟩
      obtain ⟨g, cap', hse, hg⟩ := own_form ho (by omega)
      cases hse
      refine ⟨g, rfl, ?_⟩
      obtain ⟨nm', o, a, b, v, hp, ho1, c0, c1, c2, c3, c4⟩ := hb k hk
      have e := hp
      obtain ⟨p0, p1, p2, p3, p4⟩ := hp
      obtain ⟨q0, q1, q2, q3, q4⟩ := hr k hk
      rw [p0] at q0; rw [p1] at q1; rw [p2] at q2; rw [p3] at q3
      simp only [Option.some.injEq, Value.string.injEq, Value.int.injEq, true_and] at q0 q1 q2 q3
      obtain rfl : o = pc k + 1 := by omega
      subst q0 q2 q3
      rw [Nat.mul_comm] at c0 c1 c2 c3 c4
      exact ⟨hg, own_cell ho c0, own_cell ho c1, own_cell ho c2, own_cell ho c3, own_cell ho c4⟩
theorem Outs.nameC (h : Outs w n f og pt ob) (hi : i < n) {t : Ty} (r : RT f i t) (ot : OkM t) (hb : t.behind = t) : (∃ F, NameC w (pt (i + 1)) (ob (i + 1)) F (tname t)) ∧ (tname t).size ≤ 2 := by
  cases ot with
  | int ht =>
    obtain ⟨sz, sg, nm, rfl, _, hl⟩ := ht
    obtain ⟨e, x0, _⟩ := h.intC hi r
    rw [e]
    exact ⟨⟨128, fun W => by kernel_rfl, fun W => by kernel_rfl, name_Int _ _ _ x0⟩, hl⟩
  | enm ht =>
    obtain ⟨nm, sg, q, vn, vv, rfl, _, _, hl, _⟩ := ht
    obtain ⟨e, x0, _⟩ := h.enmC hi r
    rw [e]
    exact ⟨⟨126, fun W => by kernel_rfl, fun W => by kernel_rfl, name_Enum _ _ _ x0⟩, hl⟩
  | ptr ht =>
    rw [(h.kindOf hi r.kind).2.1 rfl]
    exact ⟨⟨140, fun W => by kernel_rfl, fun W => by kernel_rfl, name_Pointer _ _⟩, Nat.zero_le _⟩
  | arr ht hn =>
    rw [(h.kindOf hi r.kind).2.2.1 rfl]
    exact ⟨⟨143, fun W => by kernel_rfl, fun W => by kernel_rfl, name_Array _ _⟩, Nat.zero_le _⟩
  | named ht => obtain ⟨sz, sg, nm, rfl, _⟩ := ht; cases hb
  | cst ht => obtain ⟨sz, sg, nm, rfl, _⟩ := ht; cases hb
  | comp hl _ _ _ _ =>
    cases r with
    | @comp _ _ _ _ _ _ _ _ _ pc hk hn hs hqq hr hr2 =>
      obtain ⟨cs, cs0, ty, lo, hob, hbk, hful⟩ := h.full i hi
      have hk4 : (f i).k = 4 := hk
      rw [(h.kindOf hi hk4).2.2.2.1 rfl]
      rw [hk4, hn] at hful
      cases hful with
      | str hk' ho hb => exact ⟨⟨132, fun W => by kernel_rfl, fun W => by kernel_rfl, name_Struct _ _ _ (hbk.cell 0)⟩, hl⟩
theorem und_lt (hi : i < n) (hp : Peels n f) : und f i < n := by
  unfold und
  split
  · rename_i hk
    obtain ⟨j, hj, ho, _⟩ := hp i hi hk
    omega
  · exact hi
end
theorem core_any {T : Two} (g1 : Refs T.n1 T.f1) (g2 : Refs T.n2 T.f2) {a : Addr} : ∀ (N : Nat) {t u : Ty} {i j : Nat} {w : World} {mv : Value} {S : Nat → Nat → Prop}, t.cnt ≤ N → OkM t → OkM u → RT T.f1 i t → RT T.f2 j u → i < T.n1 → j < T.n2 → T.In w →
    (mv = .map none ∨ ∃ mb, mv = .map (some mb) ∧ Vis T w S mb) → (∀ x y, S x y → T.Done x y ∨ ∃ t', RT T.f1 x t' ∧ t.cnt < t'.cnt) → w.cell? ⟨3, 0, none⟩ = some (.iface 228 (.pointer (some a))) →
    Calls Tryz.prog 47 #[objAt T.pt1 T.ob1 i, objAt T.pt2 T.ob2 j, mv] w (MRes T mv S (tm t u) (.iface 228 (.pointer (some a))) w) := by
  intro N
  induction N with
  | zero => intro t u i j w mv S h; have := Ty.cnt_pos t; omega
  | succ N ih =>
    intro t u i j w mv S hN ot ou r s hi hj hT hmv hS hev
    have hU1 := underlying_any w T.n1 T.og1 i T.f1 T.pt1 T.ob1 hT.h1 hi hT.p1
    have hU2 := underlying_any w T.n2 T.og2 j T.f2 T.pt2 T.ob2 hT.h2 hj hT.p2
    have hi' := und_lt hi hT.p1
    have hj' := und_lt hj hT.p2
    have r' := ot.rt_und r
    have s' := ou.rt_und s
    rw [← tm_behind_left, ← tm_behind_right]
    have hN' := Nat.le_trans (cnt_behind t) hN
    replace hS : ∀ x y, S x y → T.Done x y ∨ ∃ t', RT T.f1 x t' ∧ t.behind.cnt < t'.cnt := fun x y h => (hS x y h).imp id fun ⟨t', q, l⟩ => ⟨t', q, Nat.lt_of_le_of_lt (cnt_behind t) l⟩
    replace ot := ot.behind
    replace ou := ou.behind
    have it := behind_idem t
    have iu := behind_idem u
    clear hN r s
    generalize t.behind = t' at r' ot it hN' hS ⊢
    generalize u.behind = u' at s' ou iu ⊢
    generalize und T.f1 i = i' at hU1 hi' r'
    generalize und T.f2 j = j' at hU2 hj' s'
    have hx := r'.kind
    have hy := s'.kind
    have hZ1 := zzKind_any w T.n1 T.og1 i' T.f1 T.pt1 T.ob1 hT.h1 hi'
    have hZ2 := zzKind_any w T.n2 T.og2 j' T.f2 T.pt2 T.ob2 hT.h2 hj'
    rw [hx] at hZ1
    rw [hy] at hZ2
    obtain ⟨⟨F1, N1⟩, l1⟩ := hT.h1.nameC hi' r' ot it
    obtain ⟨⟨F2, N2⟩, l2⟩ := hT.h2.nameC hj' s' ou iu
    cases hess : ess (tname t') (tname u') with
    | false =>
      rw [tm_name (by rw [it, iu]; exact hess)]
      exact core_names N1.m N2.m N1.c N2.c hU1 hU2 N1.n N2.n l1 l2 hev hess
    | true =>
      by_cases hk : t'.kind = u'.kind
      · have hun : (∃ mb m, mv = .map (some mb) ∧ MapIn T w S mb m ∧ m (T.pair i' j') = some (.agg #[])) ∨ Unmet T w mv S (T.pair i' j') := by
          rcases hmv with rfl | ⟨mb, rfl, m, hm⟩
          · exact .inr (.inl rfl)
          · cases hx : m (T.pair i' j') with
            | none => exact .inr (.inr ⟨mb, m, rfl, hm, hx⟩)
            | some v => exact .inl ⟨mb, m, rfl, hm, by rw [hx, (hm.keys _ _ hx).2]⟩
        have hdone : tm t' u' = true → T.Done i' j' := fun h => ⟨t', u', r', s', h⟩
        rcases hun with ⟨mb, m, rfl, hmi, hit⟩ | hun
        · have htm : tm t' u' = true := by
            rcases hS i' j' (hmi.says i' j' hi' hj' _ hit) with ⟨t1, u1, q1, q2, e⟩ | ⟨t1, q, hlt⟩
            · exact (tm_uniq r' q1 s' q2).trans e
            · have := cnt_uniq r' q; omega
          rw [htm]
          rw [← hk] at hZ2
          exact core_hit N1.m N2.m N1.c N2.c hU1 hU2 N1.n N2.n l1 l2 hev hess (hT.h1.pairKey hT.h2 hi' hj') hmi hit hZ1 hZ2
        · clear N1 N2 hmv F1 F2
          obtain ⟨p1, hp1⟩ : ∃ p1, p1 = T.pt1 (i' + 1) := ⟨_, rfl⟩
          obtain ⟨p2, hp2⟩ : ∃ p2, p2 = T.pt2 (j' + 1) := ⟨_, rfl⟩
          obtain ⟨b, hb⟩ : ∃ b, b = T.ob1 (i' + 1) := ⟨_, rfl⟩
          obtain ⟨c, hc⟩ : ∃ c, c = T.ob2 (j' + 1) := ⟨_, rfl⟩
          have hpair : T.pair i' j' = .agg #[.iface p1 (.pointer (some ⟨b, 0, none⟩)), .iface p2 (.pointer (some ⟨c, 0, none⟩))] := by rw [hp1, hp2, hb, hc]; rfl
          rw [hpair] at hun
          simp only [objAt] at hU1 hU2 hZ1 hZ2
          rw [← hp1, ← hb] at hU1 hZ1
          rw [← hp2, ← hc] at hU2 hZ2
          have hsub : ∀ {t1 : Ty}, t1.cnt < t'.cnt → ∀ x y, (S x y ∨ (x = i' ∧ y = j')) → T.Done x y ∨ ∃ t2, RT T.f1 x t2 ∧ t1.cnt < t2.cnt := fun hl x y h => by
            rcases h with h | ⟨rfl, rfl⟩
            · exact (hS x y h).imp id fun ⟨t2, q, l⟩ => ⟨t2, q, Nat.lt_trans hl l⟩
            · exact .inr ⟨t', r', hl⟩
          cases ot with
          | int ht =>
            obtain ⟨sz, sg, nm, rfl, _⟩ := ht
            cases ou with
            | int hu =>
              obtain ⟨sz2, sg2, nm2, rfl, _⟩ := hu
              obtain ⟨e1, x0, x1, x2⟩ := hT.h1.intC hi' r'
              obtain ⟨e2, y0, y1, y2⟩ := hT.h2.intC hj' s'
              obtain rfl := hp1.trans e1
              obtain rfl := hp2.trans e2
              rw [← hb] at x0 x1 x2
              rw [← hc] at y0 y1 y2
              have htm : tm (.int sz sg nm) (.int sz2 sg2 nm2) = (((sz : Int) == (sz2 : Int)) && sg == sg2) := by
                rw [cast_beq]
                simp only [tname] at hess
                simp only [tm, Ty.behind, hess, Bool.true_and]
              rw [htm] at hdone ⊢
              exact core_Int hT hi' hj' hpair hU1 hU2 hZ1 hZ2 hev hun x0 y0 l1 l2 x1 y1 x2 y2 hess hdone
            | enm hu => obtain ⟨nm2, sg2, q2, vn2, vv2, rfl, _⟩ := hu; cases hk
            | _ => cases hk
          | enm ht =>
            obtain ⟨nm, sg, q, vn, vv, rfl, hq1, hq4, _, hv⟩ := ht
            cases ou with
            | enm hu =>
              obtain ⟨nm2, sg2, q2, vn2, vv2, rfl, hr1, hr4, _, hv2⟩ := hu
              obtain ⟨e1, x0, x1⟩ := hT.h1.enmC hi' r'
              obtain ⟨e2, y0, y1⟩ := hT.h2.enmC hj' s'
              obtain ⟨vg1, cap1, o1⟩ := hT.h1.enumObj hi' r' hq1
              obtain ⟨vg2, cap2, o2⟩ := hT.h2.enumObj hj' s' hr1
              obtain rfl := hp1.trans e1
              obtain rfl := hp2.trans e2
              rw [← hb] at x0 x1
              rw [← hc] at y0 y1
              have o1' : EnumObj w (fun _ => b) 0 q vg1 cap1 vn vv := by subst hb; exact o1
              have o2' : EnumObj w (fun _ => c) 0 q2 vg2 cap2 vn2 vv2 := by subst hc; exact o2
              have htm : tm (.enm nm sg q vn vv) (.enm nm2 sg2 q2 vn2 vv2) = (decide (q ≤ q2) && allB q fun i => anyB q2 fun j => vn i == vn2 j && true) := by
                simp only [tname] at hess
                simp only [tm, Ty.behind, hess, Bool.true_and]
              rw [htm] at hdone ⊢
              exact core_Enum hT hi' hj' hpair hU1 hU2 hZ1 hZ2 hev hun x0 y0 l1 l2 x1 y1 o1' o2' (by omega) (by omega) (fun k hk => (hv k hk).1) (fun k hk => (hv2 k hk).1) hess hdone
            | int hu => obtain ⟨sz2, sg2, nm2, rfl, _⟩ := hu; cases hk
            | _ => cases hk
          | @ptr t1 ht =>
            cases ou with
            | @ptr u1 hu =>
              have rk := r'.kind
              have sk := s'.kind
              cases r' with
              | @ptr _ i1 _ hk1 ho1 q1 =>
                cases s' with
                | @ptr _ j1 _ hk2 ho2 q2 =>
                  have hi1 := g1.of_ i' hi'
                  have hj1 := g2.of_ j' hj'
                  have x0 := (hT.h1.ptrCell hi' hk1 ho1).1
                  have y0 := (hT.h2.ptrCell hj' hk2 ho2).1
                  obtain rfl := hp1.trans ((hT.h1.kindOf hi' hk1).2.1 rfl)
                  obtain rfl := hp2.trans ((hT.h2.kindOf hj' hk2).2.1 rfl)
                  rw [← hb] at x0
                  rw [← hc] at y0
                  have m1 := (hT.h1.kindOf (show i1 < T.n1 by omega) (ht.row q1).1).1 rfl
                  have m2 := (hT.h2.kindOf (show j1 < T.n2 by omega) (hu.row q2).1).1 rfl
                  simp only [objAt, m1] at x0
                  simp only [objAt, m2] at y0
                  refine core_Ptr hT hi' hj' hpair hU1 hU2 hZ1 hZ2 hev hun x0 y0 (fun W mb hck hvis => ?_) hdone
                  have := ih (by simp only [Ty.cnt] at hN'; omega) (.int ht) (.int hu) q1 q2 (show i1 < T.n1 by omega) (show j1 < T.n2 by omega) (hT.ck hck) (.inr ⟨mb, rfl, hvis⟩) (hsub (by simp only [Ty.cnt]; omega)) (hck.cell hev)
                  simp only [objAt, m1, m2] at this
                  exact this
            | int hu => obtain ⟨sz2, sg2, nm2, rfl, _⟩ := hu; cases hk
            | enm hu => obtain ⟨nm2, sg2, q2, vn2, vv2, rfl, _⟩ := hu; cases hk
            | _ => cases hk
          | @arr m1 t1 ht hn1 =>
            cases ou with
            | @arr m2 u1 hu hn2 =>
              cases r' with
              | @arr _ i1 x1 _ _ hk1 hs1 ho1 hx1 rx1 q1 =>
                cases s' with
                | @arr _ j1 x2 _ _ hk2 hs2 ho2 hx2 rx2 q2 =>
                  have hi1 := g1.of_ i' hi'
                  have hj1 := g2.of_ j' hj'
                  obtain ⟨_, y1, y2, _⟩ := hT.h1.arrCell hi' hk1 ho1 hx1
                  obtain ⟨_, z1, z2, _⟩ := hT.h2.arrCell hj' hk2 ho2 hx2
                  rw [hs1] at y2
                  rw [hs2] at z2
                  obtain rfl := hp1.trans ((hT.h1.kindOf hi' hk1).2.2.1 rfl)
                  obtain rfl := hp2.trans ((hT.h2.kindOf hj' hk2).2.2.1 rfl)
                  rw [← hb] at y1 y2
                  rw [← hc] at z1 z2
                  have m1' := (hT.h1.kindOf (show i1 < T.n1 by omega) (ht.row q1).1).1 rfl
                  have m2' := (hT.h2.kindOf (show j1 < T.n2 by omega) (hu.row q2).1).1 rfl
                  simp only [objAt, m1'] at y1
                  simp only [objAt, m2'] at z1
                  have htm : tm (.arr m1 t1) (.arr m2 u1) = (((m1 : Int) == (m2 : Int)) && tm t1 u1) := by rw [cast_beq]; rfl
                  rw [htm] at hdone ⊢
                  refine core_Arr hT hi' hj' hpair hU1 hU2 hZ1 hZ2 hev hun y1 z1 y2 z2 (fun W mb hck hvis => ?_) hdone
                  have := ih (by simp only [Ty.cnt] at hN'; omega) (.int ht) (.int hu) q1 q2 (show i1 < T.n1 by omega) (show j1 < T.n2 by omega) (hT.ck hck) (.inr ⟨mb, rfl, hvis⟩) (hsub (by simp only [Ty.cnt]; omega)) (hck.cell hev)
                  simp only [objAt, m1', m2'] at this
                  exact this
            | int hu => obtain ⟨sz2, sg2, nm2, rfl, _⟩ := hu; cases hk
            | enm hu => obtain ⟨nm2, sg2, q2, vn2, vv2, rfl, _⟩ := hu; cases hk
            | _ => cases hk
          | named ht => obtain ⟨sz, sg, nm, rfl, _⟩ := ht; cases it
          | cst ht => obtain ⟨sz, sg, nm, rfl, _⟩ := ht; cases it
          | @comp sz1 q1 nm1 pn1 py1 pa1 pb1 hnm1 hq1 hp1' hd1 hc1 =>
            cases ou with
            | @comp sz2 q2 nm2 pn2 py2 pa2 pb2 hnm2 hq2 hp2' hd2 hc2 =>
              obtain ⟨e1, x0, u1, cap1, pc1, x2, m1⟩ := hT.h1.strC g1 hi' r'
              obtain ⟨e2, y0, u2, cap2, pc2, y2, m2⟩ := hT.h2.strC g2 hj' s'
              obtain rfl := hp1.trans e1
              obtain rfl := hp2.trans e2
              rw [← hb] at x0 x2
              rw [← hc] at y0 y2
              have htm : tm (.comp false nm1 sz1 q1 pn1 py1 pa1 pb1) (.comp false nm2 sz2 q2 pn2 py2 pa2 pb2) = (decide (q1 ≤ q2) && allB q1 fun k => anyB q2 fun l => pn1 k == pn2 l && tm (py1 k) (py2 l)) := by
                simp only [tname] at hess
                simp only [tm, Ty.behind, hess, Bool.true_and, beq_self_eq_true]
              rw [htm] at hdone ⊢
              refine core_Str (mp1 := fun k => T.pt1 (pc1 k + 1)) (mp2 := fun k => T.pt2 (pc2 k + 1)) (mo1 := fun k => T.ob1 (pc1 k + 1)) (mo2 := fun k => T.ob2 (pc2 k + 1)) (ma1 := fun k => (pa1 k : Nat)) (ma2 := fun k => (pa2 k : Nat)) (mb1 := fun k => (pb1 k : Nat)) (mb2 := fun k => (pb2 k : Nat))
                hT hi' hj' hpair hU1 hU2 hZ1 hZ2 hev hun x0 y0 l1 l2 x2 y2 hq1 hq2 (fun k hk => (m1 k hk).2.2) (fun k hk => (m2 k hk).2.2) hd2 (fun k l hk hl W mb hck hvis => ?_) hess hdone
              have hlt : (py1 k).cnt < (Ty.comp false nm1 sz1 q1 pn1 py1 pa1 pb1).cnt := by simp only [Ty.cnt]; have := sumTo_at (fun i => (py1 i).cnt) hk; omega
              exact ih (by omega) (hc1 k hk) (hc2 l hl) (m1 k hk).2.1 (m2 l hl).2.1 (m1 k hk).1 (m2 l hl).1 (hT.ck hck) (.inr ⟨mb, rfl, hvis⟩) (fun x y h => h.elim (hsub hlt x y) .inl) (hck.cell hev)
            | int hu => obtain ⟨sz2, sg2, nm2, rfl, _⟩ := hu; cases hk
            | enm hu => obtain ⟨nm2, sg2, q2, vn2, vv2, rfl, _⟩ := hu; cases hk
            | _ => cases hk
      · rw [tm_kind (by rw [it, iu]; exact hk)]
        exact core_kinds N1.m N2.m N1.c N2.c hU1 hU2 N1.n N2.n l1 l2 hev hess (fun e => hk (by omega)) hZ1 hZ2
#print axioms core_any
end Go.Proofs.YtfilbgmbmlmdbaaGreatDoor
