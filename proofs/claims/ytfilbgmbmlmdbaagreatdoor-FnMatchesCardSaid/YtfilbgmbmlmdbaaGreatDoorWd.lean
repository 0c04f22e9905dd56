/- Whether types match, by the package's own rule: the walks over enumerations, pointers and arrays. Nothing is claimed here. -/
import Derived.Test.YtfilbgmbmlmdbaaGreatDoorWc
namespace Go.Proofs.YtfilbgmbmlmdbaaGreatDoor
open Go.RowKit Go.MapKept
section
variable {T : Two} {w : World} {x y : Value} {b c : Nat} {mv : Value} {S : Nat → Nat → Prop} {a : Addr} {p1 p2 : TypeId} {F1 F2 : FuncId} {nm1 nm2 : ByteArray}
set_option linter.unusedSimpArgs false in
set_option maxRecDepth 100000 in
set_option maxHeartbeats 8000000 in
theorem core_names (hm1 : ∀ W : World, (Go.method 419 p1 (.pointer (some ⟨b, 0, none⟩)) "TypeName").run Tryz.prog W = .ok (F1, .pointer (some ⟨b, 0, none⟩)) W)
    (hm2 : ∀ W : World, (Go.method 419 p2 (.pointer (some ⟨c, 0, none⟩)) "TypeName").run Tryz.prog W = .ok (F2, .pointer (some ⟨c, 0, none⟩)) W)
    (hc1 : ∀ W : World, (callFunc F1 #[.pointer (some ⟨b, 0, none⟩)]).run Tryz.prog W = .ok (.enter F1 #[.pointer (some ⟨b, 0, none⟩)]) W) (hc2 : ∀ W : World, (callFunc F2 #[.pointer (some ⟨c, 0, none⟩)]).run Tryz.prog W = .ok (.enter F2 #[.pointer (some ⟨c, 0, none⟩)]) W)
    (hU1 : Calls Tryz.prog 65 #[x] w fun e w' => e = .returned (.iface p1 (.pointer (some ⟨b, 0, none⟩))) ∧ w' = w)
    (hU2 : Calls Tryz.prog 65 #[y] w fun e w' => e = .returned (.iface p2 (.pointer (some ⟨c, 0, none⟩))) ∧ w' = w)
    (hN1 : Calls Tryz.prog F1 #[.pointer (some ⟨b, 0, none⟩)] w fun e w' => e = .returned (.string nm1) ∧ w' = w)
    (hN2 : Calls Tryz.prog F2 #[.pointer (some ⟨c, 0, none⟩)] w fun e w' => e = .returned (.string nm2) ∧ w' = w) (l1 : nm1.size ≤ 2) (l2 : nm2.size ≤ 2)
    (hev : w.cell? ⟨3, 0, none⟩ = some (.iface 228 (.pointer (some a)))) (he : ess nm1 nm2 = false) :
    Calls Tryz.prog 47 #[x, y, mv] w (MRes T mv S false (.iface 228 (.pointer (some a))) w) := by
  have le := World.block_lt_of_cell? w _ hev
  simp only at le
  have HU1 := Lib.hid hU1
  have HU2 := Lib.hid hU2
  have HN1 := Lib.hid hN1
  have HN2 := Lib.hid hN2
  clear hU1 hU2 hN1 hN2
  go_enter Tryz.func47, Tryz.ntmps47
  go_wp2_with fail
  refine HU1.out.mono ?_
  rintro e w9 ⟨rfl, rfl⟩
  go_wp2_with fail
  refine HU2.out.mono ?_
  rintro e w8 ⟨rfl, rfl⟩
  go_wp2_with fail
  refine HN1.out.mono ?_
  rintro e w7 ⟨rfl, rfl⟩
  go_wp2_with fail
  refine HN2.out.mono ?_
  rintro e w6 ⟨rfl, rfl⟩
  go_wp2_with fail
  refine (names_any _ _ _ l1 l2).mono ?_
  rintro e w5 ⟨rfl, rfl⟩
  rw [he]
  go_wp2_with fail
  go_ret
  exact ⟨.inr ⟨rfl, rfl⟩, ExtV.same _ _⟩
set_option linter.unusedSimpArgs false in
set_option maxRecDepth 100000 in
set_option maxHeartbeats 8000000 in
theorem core_kinds {k1 k2 : Int} (hm1 : ∀ W : World, (Go.method 419 p1 (.pointer (some ⟨b, 0, none⟩)) "TypeName").run Tryz.prog W = .ok (F1, .pointer (some ⟨b, 0, none⟩)) W)
    (hm2 : ∀ W : World, (Go.method 419 p2 (.pointer (some ⟨c, 0, none⟩)) "TypeName").run Tryz.prog W = .ok (F2, .pointer (some ⟨c, 0, none⟩)) W)
    (hc1 : ∀ W : World, (callFunc F1 #[.pointer (some ⟨b, 0, none⟩)]).run Tryz.prog W = .ok (.enter F1 #[.pointer (some ⟨b, 0, none⟩)]) W) (hc2 : ∀ W : World, (callFunc F2 #[.pointer (some ⟨c, 0, none⟩)]).run Tryz.prog W = .ok (.enter F2 #[.pointer (some ⟨c, 0, none⟩)]) W)
    (hU1 : Calls Tryz.prog 65 #[x] w fun e w' => e = .returned (.iface p1 (.pointer (some ⟨b, 0, none⟩))) ∧ w' = w)
    (hU2 : Calls Tryz.prog 65 #[y] w fun e w' => e = .returned (.iface p2 (.pointer (some ⟨c, 0, none⟩))) ∧ w' = w)
    (hN1 : Calls Tryz.prog F1 #[.pointer (some ⟨b, 0, none⟩)] w fun e w' => e = .returned (.string nm1) ∧ w' = w)
    (hN2 : Calls Tryz.prog F2 #[.pointer (some ⟨c, 0, none⟩)] w fun e w' => e = .returned (.string nm2) ∧ w' = w) (l1 : nm1.size ≤ 2) (l2 : nm2.size ≤ 2)
    (hev : w.cell? ⟨3, 0, none⟩ = some (.iface 228 (.pointer (some a)))) (he : ess nm1 nm2 = true) (hk : k1 ≠ k2)
    (hZ1 : Calls Tryz.prog 69 #[.iface p1 (.pointer (some ⟨b, 0, none⟩))] w fun e w' => e = .returned (.int .i64 k1) ∧ w' = w)
    (hZ2 : Calls Tryz.prog 69 #[.iface p2 (.pointer (some ⟨c, 0, none⟩))] w fun e w' => e = .returned (.int .i64 k2) ∧ w' = w) :
    Calls Tryz.prog 47 #[x, y, mv] w (MRes T mv S false (.iface 228 (.pointer (some a))) w) := by
  have le := World.block_lt_of_cell? w _ hev
  simp only at le
  have HU1 := Lib.hid hU1
  have HU2 := Lib.hid hU2
  have HN1 := Lib.hid hN1
  have HN2 := Lib.hid hN2
  have HZ1 := Lib.hid hZ1
  have HZ2 := Lib.hid hZ2
  have hkk : (k1 != k2) = true := by simpa using hk
  clear hU1 hU2 hN1 hN2 hZ1 hZ2 hk
  go_enter Tryz.func47, Tryz.ntmps47
  go_wp2_with fail
  refine HU1.out.mono ?_
  rintro e w9 ⟨rfl, rfl⟩
  go_wp2_with fail
  refine HU2.out.mono ?_
  rintro e w8 ⟨rfl, rfl⟩
  go_wp2_with fail
  refine HN1.out.mono ?_
  rintro e w7 ⟨rfl, rfl⟩
  go_wp2_with fail
  refine HN2.out.mono ?_
  rintro e w6 ⟨rfl, rfl⟩
  go_wp2_with fail
  refine (names_any _ _ _ l1 l2).mono ?_
  rintro e w5 ⟨rfl, rfl⟩
  rw [he]
  go_wp2_with fail
  refine HZ1.out.mono ?_
  rintro e w4 ⟨rfl, rfl⟩
  go_wp2_with fail
  refine HZ2.out.mono ?_
  rintro e w3 ⟨rfl, rfl⟩
  go_wp2_with fail
  go_ret
  exact ⟨.inr ⟨rfl, rfl⟩, ExtV.same _ _⟩
set_option linter.unusedSimpArgs false in
set_option maxRecDepth 100000 in
set_option maxHeartbeats 8000000 in
theorem core_hit {k1 : Int} {mb : Nat} {m : Value → Option Value} (hm1 : ∀ W : World, (Go.method 419 p1 (.pointer (some ⟨b, 0, none⟩)) "TypeName").run Tryz.prog W = .ok (F1, .pointer (some ⟨b, 0, none⟩)) W)
    (hm2 : ∀ W : World, (Go.method 419 p2 (.pointer (some ⟨c, 0, none⟩)) "TypeName").run Tryz.prog W = .ok (F2, .pointer (some ⟨c, 0, none⟩)) W)
    (hc1 : ∀ W : World, (callFunc F1 #[.pointer (some ⟨b, 0, none⟩)]).run Tryz.prog W = .ok (.enter F1 #[.pointer (some ⟨b, 0, none⟩)]) W) (hc2 : ∀ W : World, (callFunc F2 #[.pointer (some ⟨c, 0, none⟩)]).run Tryz.prog W = .ok (.enter F2 #[.pointer (some ⟨c, 0, none⟩)]) W)
    (hU1 : Calls Tryz.prog 65 #[x] w fun e w' => e = .returned (.iface p1 (.pointer (some ⟨b, 0, none⟩))) ∧ w' = w)
    (hU2 : Calls Tryz.prog 65 #[y] w fun e w' => e = .returned (.iface p2 (.pointer (some ⟨c, 0, none⟩))) ∧ w' = w)
    (hN1 : Calls Tryz.prog F1 #[.pointer (some ⟨b, 0, none⟩)] w fun e w' => e = .returned (.string nm1) ∧ w' = w)
    (hN2 : Calls Tryz.prog F2 #[.pointer (some ⟨c, 0, none⟩)] w fun e w' => e = .returned (.string nm2) ∧ w' = w) (l1 : nm1.size ≤ 2) (l2 : nm2.size ≤ 2)
    (hev : w.cell? ⟨3, 0, none⟩ = some (.iface 228 (.pointer (some a)))) (he : ess nm1 nm2 = true) (hkey : PairKey w (.agg #[.iface p1 (.pointer (some ⟨b, 0, none⟩)), .iface p2 (.pointer (some ⟨c, 0, none⟩))])) (hmi : MapIn T w S mb m) (hit : m (.agg #[.iface p1 (.pointer (some ⟨b, 0, none⟩)), .iface p2 (.pointer (some ⟨c, 0, none⟩))]) = some (.agg #[]))
    (hZ1 : Calls Tryz.prog 69 #[.iface p1 (.pointer (some ⟨b, 0, none⟩))] w fun e w' => e = .returned (.int .i64 k1) ∧ w' = w)
    (hZ2 : Calls Tryz.prog 69 #[.iface p2 (.pointer (some ⟨c, 0, none⟩))] w fun e w' => e = .returned (.int .i64 k1) ∧ w' = w) :
    Calls Tryz.prog 47 #[x, y, .map (some mb)] w (MRes T (.map (some mb)) S true (.iface 228 (.pointer (some a))) w) := by
  have le := World.block_lt_of_cell? w _ hev
  simp only at le
  have HU1 := Lib.hid hU1
  have HU2 := Lib.hid hU2
  have HN1 := Lib.hid hN1
  have HN2 := Lib.hid hN2
  have HZ1 := Lib.hid hZ1
  have HZ2 := Lib.hid hZ2
  have hz : (zeroValue 99).run Tryz.prog w = .ok (.agg #[]) w := by simp
  have K := pair_keys w
  have hmp := hmi.mp
  have hkeys := fun x u h => (hmi.keys x u h).1
  have HMI := Lib.hid hmi
  clear hU1 hU2 hN1 hN2 hZ1 hZ2 hmi
  go_enter Tryz.func47, Tryz.ntmps47
  go_wp2_with fail
  refine HU1.out.mono ?_
  rintro e w9 ⟨rfl, rfl⟩
  go_wp2_with fail
  refine HU2.out.mono ?_
  rintro e w8 ⟨rfl, rfl⟩
  go_wp2_with fail
  refine HN1.out.mono ?_
  rintro e w7 ⟨rfl, rfl⟩
  go_wp2_with fail
  refine HN2.out.mono ?_
  rintro e w6 ⟨rfl, rfl⟩
  go_wp2_with fail
  refine (names_any _ _ _ l1 l2).mono ?_
  rintro e w5 ⟨rfl, rfl⟩
  rw [he]
  go_wp2_with fail
  refine HZ1.out.mono ?_
  rintro e w4 ⟨rfl, rfl⟩
  go_wp2_with fail
  refine HZ2.out.mono ?_
  rintro e w3 ⟨rfl, rfl⟩
  go_wp2_with (at_lookup; refine wpList_look rfl _ _ rfl Tryz.underlying157 hz K rfl hmp hkeys _ rfl hkey _ hit ?_)
  go_ret
  have hb := (Below.refl w3.heap.size w3).alloc (Nat.le_refl _) (.cells #[] 99)
  exact ⟨.inl ⟨rfl, rfl, fun mb' e => by cases e; exact ⟨m, (HMI.out.below hb).mp, (HMI.out.below hb).keys, fun i j hi hj u hu => .inl (HMI.out.says i j hi hj u hu)⟩⟩, ExtV.below hb⟩
end
end Go.Proofs.YtfilbgmbmlmdbaaGreatDoor

namespace Go.Proofs.YtfilbgmbmlmdbaaGreatDoor
open Go.RowKit Go.MapKept
section
variable {T : Two} {w : World} {x y : Value} {b c i j : Nat} {mv : Value} {S : Nat → Nat → Prop} {a : Addr}
set_option linter.unusedSimpArgs false in
set_option maxRecDepth 100000 in
set_option maxHeartbeats 8000000 in
theorem core_Enum {nm1 nm2 : ByteArray} {q1 q2 vg1 vg2 cap1 cap2 : Nat} {vn1 vn2 : Nat → ByteArray} {vv1 vv2 : Nat → Int}
    (hT : T.In w) (hi : i < T.n1) (hj : j < T.n2) (hpair : T.pair i j = .agg #[.iface 144 (.pointer (some ⟨b, 0, none⟩)), .iface 144 (.pointer (some ⟨c, 0, none⟩))])
    (hU1 : Calls Tryz.prog 65 #[x] w fun e w' => e = .returned (.iface 144 (.pointer (some ⟨b, 0, none⟩))) ∧ w' = w)
    (hU2 : Calls Tryz.prog 65 #[y] w fun e w' => e = .returned (.iface 144 (.pointer (some ⟨c, 0, none⟩))) ∧ w' = w)
    (hZ1 : Calls Tryz.prog 69 #[.iface 144 (.pointer (some ⟨b, 0, none⟩))] w fun e w' => e = .returned (.int .i64 7) ∧ w' = w)
    (hZ2 : Calls Tryz.prog 69 #[.iface 144 (.pointer (some ⟨c, 0, none⟩))] w fun e w' => e = .returned (.int .i64 7) ∧ w' = w)
    (hev : w.cell? ⟨3, 0, none⟩ = some (.iface 228 (.pointer (some a))))
    (hun : Unmet T w mv S (.agg #[.iface 144 (.pointer (some ⟨b, 0, none⟩)), .iface 144 (.pointer (some ⟨c, 0, none⟩))]))
    (x0 : w.cell? ⟨b, 0, none⟩ = some (.string nm1)) (y0 : w.cell? ⟨c, 0, none⟩ = some (.string nm2)) (l1 : nm1.size ≤ 2) (l2 : nm2.size ≤ 2)
    (x1 : w.cell? ⟨b, 1, none⟩ = some (.int .u32 4)) (y1 : w.cell? ⟨c, 1, none⟩ = some (.int .u32 4))
    (o1 : EnumObj w (fun _ => b) 0 q1 vg1 cap1 vn1 vv1) (o2 : EnumObj w (fun _ => c) 0 q2 vg2 cap2 vn2 vv2) (hq1 : q1 ≤ 1000) (hq2 : q2 ≤ 1000) (s1 : ∀ j, j < q1 → (vn1 j).size = 2) (s2 : ∀ j, j < q2 → (vn2 j).size = 2)
    (he : ess nm1 nm2 = true) (hd : (decide (q1 ≤ q2) && allB q1 fun i => anyB q2 fun j => vn1 i == vn2 j && true) = true → T.Done i j) :
    Calls Tryz.prog 47 #[x, y, mv] w (MRes T mv S (decide (q1 ≤ q2) && allB q1 fun i => anyB q2 fun j => vn1 i == vn2 j && true) (.iface 228 (.pointer (some a))) w) := by
  obtain ⟨R, hR⟩ : ∃ R, R = (decide (q1 ≤ q2) && allB q1 fun i => anyB q2 fun j => vn1 i == vn2 j && true) := ⟨_, rfl⟩
  rw [← hR] at hd ⊢
  have HRR := Lib.hid hR
  have HO1 := Lib.hid o1
  have HO2 := Lib.hid o2
  have HS1 := Lib.hid s1
  have HS2 := Lib.hid s2
  clear hR o1 o2 s1 s2
  have le := World.block_lt_of_cell? w _ hev
  simp only at le
  have hkey : PairKey w (.agg #[.iface 144 (.pointer (some ⟨b, 0, none⟩)), .iface 144 (.pointer (some ⟨c, 0, none⟩))]) := hpair ▸ hT.h1.pairKey hT.h2 hi hj
  have HT := Lib.hid hT
  have HU1 := Lib.hid hU1
  have HU2 := Lib.hid hU2
  have HZ1 := Lib.hid hZ1
  have HZ2 := Lib.hid hZ2
  obtain ⟨B, hEG, hB, hB1, hB0⟩ := hun.test
  have HB1 := Lib.hid hB1
  have HB0 := Lib.hid hB0
  have HUN := Lib.hid hun
  have HP := Lib.hid hpair
  clear hT hU1 hU2 hZ1 hZ2 hun hpair hB1 hB0
  go_enter Tryz.func47, Tryz.ntmps47
  go_wp2_with fail
  refine HU1.out.mono ?_
  rintro e w9 ⟨rfl, rfl⟩
  go_wp2_with fail
  refine HU2.out.mono ?_
  rintro e w8 ⟨rfl, rfl⟩
  go_wp2_with fail
  refine (name_Enum _ _ _ x0).mono ?_
  rintro e w7 ⟨rfl, rfl⟩
  go_wp2_with fail
  refine (name_Enum _ _ _ y0).mono ?_
  rintro e w6 ⟨rfl, rfl⟩
  go_wp2_with fail
  refine (names_any _ _ _ (by first | assumption | decide) (by first | assumption | decide)).mono ?_
  rintro e w5 ⟨rfl, rfl⟩
  rw [he]
  have HD := Lib.hid hd
  clear hd
  go_wp2_with fail
  refine HZ1.out.mono ?_
  rintro e w4 ⟨rfl, rfl⟩
  go_wp2_with fail
  refine HZ2.out.mono ?_
  rintro e w3 ⟨rfl, rfl⟩
  go_upto_if 65 with (at_lookup; refine wpList_look_un HUN.out rfl _ _ rfl rfl rfl hkey ?_)
  have hmm := @run_makeMap Tryz.prog
  go_cut [2] (fun s2 wx => Hid (Ready T w3 mv S (T.pair i j) s2 wx))
  case first =>
    cases B with
    | true =>
      have hmv := HB1.out rfl
      go_wp2_with fail
      go_meet
      refine Lib.hid ?_
      rw [hmv]
      exact Ready.made (by simp) ((Below.refl _ _).alloc (Nat.le_refl _) _)
    | false =>
      obtain ⟨mb, m, hmv, hmi, hn⟩ := HB0.out rfl
      go_wp2_with fail
      go_meet
      refine Lib.hid ?_
      rw [hmv]
      exact Ready.had hmi (by rw [HP.out]; exact hn) ((Below.refl _ _).alloc (Nat.le_refl _) _)
  case rest =>
    obtain ⟨mb, m, rfl, hmi, hn, hbm, hwh, hck⟩ := hcut.out
    rw [HP.out] at hn
    have hk1 := hkey.ck hck
    have K := pair_keys wc
    have hkeys := fun x u h => (hmi.keys x u h).1
    go_upto_region 13 with (at_mapUpdate; refine wpList_store rfl _ _ _ rfl Tryz.underlying157 K rfl hmi.mp hkeys _ (.agg #[]) rfl rfl hk1 hn ?_; intro w2 hg hs hm2)
    have AF := Lib.hid (Ready.entered HT.out hi hj HP.out hmi hbm hwh hck hg hm2)
    clear hmi hn hbm hwh hck hk1 K hkeys hg hs hm2 hcut
    have q0 := taNoVoid 144 (by decide)
    have q1' := taNoFwd 144 (by decide)
    have q4 := @ta_yes _ _ Tryz.underlying144
    have q5 := @taStrict _ _ Tryz.underlying144
    go_wp2_with fail
    refine (enums_any (HO1.out.ck AF.out.kept) (HO2.out.ck AF.out.kept) (AF.out.kept.cell x1) (AF.out.kept.cell y1) (AF.out.kept.cell hev) hq1 hq2 HS1.out HS2.out).mono ?_
    rintro e w1 ⟨rfl, hb1⟩
    rw [← HRR.out]
    have AF1 := Lib.hid (AF.out.below hb1)
    clear hb1 AF
    cases R with
    | true =>
      have hd := HD.out rfl
      go_wp2_with fail
      go_ret
      exact AF1.out.yes fun x y h => h.imp id fun h => by rw [h.1, h.2]; exact hd
    | false =>
      go_wp2_with fail
      go_ret
      exact AF1.out.no
set_option linter.unusedSimpArgs false in
set_option maxRecDepth 100000 in
set_option maxHeartbeats 8000000 in
theorem core_Ptr {b1 c1 : Nat} {r : Bool}
    (hT : T.In w) (hi : i < T.n1) (hj : j < T.n2) (hpair : T.pair i j = .agg #[.iface 164 (.pointer (some ⟨b, 0, none⟩)), .iface 164 (.pointer (some ⟨c, 0, none⟩))])
    (hU1 : Calls Tryz.prog 65 #[x] w fun e w' => e = .returned (.iface 164 (.pointer (some ⟨b, 0, none⟩))) ∧ w' = w)
    (hU2 : Calls Tryz.prog 65 #[y] w fun e w' => e = .returned (.iface 164 (.pointer (some ⟨c, 0, none⟩))) ∧ w' = w)
    (hZ1 : Calls Tryz.prog 69 #[.iface 164 (.pointer (some ⟨b, 0, none⟩))] w fun e w' => e = .returned (.int .i64 3) ∧ w' = w)
    (hZ2 : Calls Tryz.prog 69 #[.iface 164 (.pointer (some ⟨c, 0, none⟩))] w fun e w' => e = .returned (.int .i64 3) ∧ w' = w)
    (hev : w.cell? ⟨3, 0, none⟩ = some (.iface 228 (.pointer (some a))))
    (hun : Unmet T w mv S (.agg #[.iface 164 (.pointer (some ⟨b, 0, none⟩)), .iface 164 (.pointer (some ⟨c, 0, none⟩))]))
    (x0 : w.cell? ⟨b, 0, none⟩ = some (.iface 151 (.pointer (some ⟨b1, 0, none⟩)))) (y0 : w.cell? ⟨c, 0, none⟩ = some (.iface 151 (.pointer (some ⟨c1, 0, none⟩))))
    (hrec : ∀ W mb, CellsKept w W → Vis T W (fun x y => S x y ∨ (x = i ∧ y = j)) mb → Calls Tryz.prog 47 #[.iface 151 (.pointer (some ⟨b1, 0, none⟩)), .iface 151 (.pointer (some ⟨c1, 0, none⟩)), .map (some mb)] W (MRes T (.map (some mb)) (fun x y => S x y ∨ (x = i ∧ y = j)) r (.iface 228 (.pointer (some a))) W))
    (hd : r = true → T.Done i j) :
    Calls Tryz.prog 47 #[x, y, mv] w (MRes T mv S r (.iface 228 (.pointer (some a))) w) := by
  have lb := World.block_lt_of_cell? w _ x0
  have lc := World.block_lt_of_cell? w _ y0
  simp only at lb lc
  have HREC := Lib.hid hrec
  have HD := Lib.hid hd
  clear hrec hd
  have le := World.block_lt_of_cell? w _ hev
  simp only at le
  have hkey : PairKey w (.agg #[.iface 164 (.pointer (some ⟨b, 0, none⟩)), .iface 164 (.pointer (some ⟨c, 0, none⟩))]) := hpair ▸ hT.h1.pairKey hT.h2 hi hj
  have HT := Lib.hid hT
  have HU1 := Lib.hid hU1
  have HU2 := Lib.hid hU2
  have HZ1 := Lib.hid hZ1
  have HZ2 := Lib.hid hZ2
  obtain ⟨B, hEG, hB, hB1, hB0⟩ := hun.test
  have HB1 := Lib.hid hB1
  have HB0 := Lib.hid hB0
  have HUN := Lib.hid hun
  have HP := Lib.hid hpair
  clear hT hU1 hU2 hZ1 hZ2 hun hpair hB1 hB0
  go_enter Tryz.func47, Tryz.ntmps47
  go_wp2_with fail
  refine HU1.out.mono ?_
  rintro e w9 ⟨rfl, rfl⟩
  go_wp2_with fail
  refine HU2.out.mono ?_
  rintro e w8 ⟨rfl, rfl⟩
  go_wp2_with fail
  refine (name_Pointer _ _).mono ?_
  rintro e w7 ⟨rfl, rfl⟩
  go_wp2_with fail
  refine (name_Pointer _ _).mono ?_
  rintro e w6 ⟨rfl, rfl⟩
  go_wp2_with fail
  refine (names_any _ _ _ (by first | assumption | decide) (by first | assumption | decide)).mono ?_
  rintro e w5 ⟨rfl, rfl⟩
  rw [show ess ⟨#[]⟩ ⟨#[]⟩ = true from rfl]
  go_wp2_with fail
  refine HZ1.out.mono ?_
  rintro e w4 ⟨rfl, rfl⟩
  go_wp2_with fail
  refine HZ2.out.mono ?_
  rintro e w3 ⟨rfl, rfl⟩
  go_upto_if 65 with (at_lookup; refine wpList_look_un HUN.out rfl _ _ rfl rfl rfl hkey ?_)
  have hmm := @run_makeMap Tryz.prog
  go_cut [2] (fun s2 wx => Hid (Ready T w3 mv S (T.pair i j) s2 wx))
  case first =>
    cases B with
    | true =>
      have hmv := HB1.out rfl
      go_wp2_with fail
      go_meet
      refine Lib.hid ?_
      rw [hmv]
      exact Ready.made (by simp) ((Below.refl _ _).alloc (Nat.le_refl _) _)
    | false =>
      obtain ⟨mb, m, hmv, hmi, hn⟩ := HB0.out rfl
      go_wp2_with fail
      go_meet
      refine Lib.hid ?_
      rw [hmv]
      exact Ready.had hmi (by rw [HP.out]; exact hn) ((Below.refl _ _).alloc (Nat.le_refl _) _)
  case rest =>
    obtain ⟨mb, m, rfl, hmi, hn, hbm, hwh, hck⟩ := hcut.out
    rw [HP.out] at hn
    have hk1 := hkey.ck hck
    have K := pair_keys wc
    have hkeys := fun x u h => (hmi.keys x u h).1
    go_upto_region 13 with (at_mapUpdate; refine wpList_store rfl _ _ _ rfl Tryz.underlying157 K rfl hmi.mp hkeys _ (.agg #[]) rfl rfl hk1 hn ?_; intro w2 hg hs hm2)
    have AF := Lib.hid (Ready.entered HT.out hi hj HP.out hmi hbm hwh hck hg hm2)
    clear hmi hn hbm hwh hck hk1 K hkeys hg hs hm2 hcut
    have kx0 := AF.out.kept.cell x0
    have ky0 := AF.out.kept.cell y0
    have klb := Nat.lt_of_lt_of_le lb AF.out.kept.size
    have klc := Nat.lt_of_lt_of_le lc AF.out.kept.size
    have q0 := taNoVoid 164 (by decide)
    have q1 := taNoFwd 164 (by decide)
    have q2 := taNoEnum 164 (by decide)
    have q3 := lackCPointer
    have q6 := taNoInt 164 (by decide)
    have q4 := @ta_yes _ _ Tryz.underlying164
    have q5 := @taStrict _ _ Tryz.underlying164
    go_wp2_with fail
    refine (fwd_Int _ b1).mono ?_
    rintro e w1 ⟨rfl, rfl⟩
    go_wp2_with fail
    refine (fwd_Int _ c1).mono ?_
    rintro e w0 ⟨rfl, rfl⟩
    clear x0 y0 lb lc le hev hkey HT HU1 HU2 HZ1 HZ2 HUN q0 q1 q2 q3 q4 q5 q6
    go_wp2_with fail
    go_still_tail 9, (by kernel_rfl)
    go_wp2_with fail
    have AFd := Lib.hid (AF.out.below ((Below.refl w0.heap.size w0).drew))
    clear AF
    refine (HREC.out w0.drew mb AFd.out.kept AFd.out.vis).mono ?_
    rintro e w1 ⟨hres, hext⟩
    rcases hres with ⟨rfl, rfl, hv⟩ | ⟨rfl, rfl⟩
    · have AF1 := Lib.hid (AFd.out.call (hext.had _ rfl) (hv _ rfl))
      have hd := HD.out rfl
      clear hv hext
      go_wp2_with fail
      go_ret
      exact AF1.out.yes fun x y h => h.elim (fun h => h.imp id fun h => by rw [h.1, h.2]; exact hd) .inr
    · have HX := Lib.hid (AFd.out.extCall (hext.had _ rfl))
      clear hext
      go_wp2_with fail
      go_ret
      exact ⟨.inr ⟨rfl, rfl⟩, HX.out⟩
set_option linter.unusedSimpArgs false in
set_option maxRecDepth 100000 in
set_option maxHeartbeats 8000000 in
theorem core_Arr {b1 c1 : Nat} {m1 m2 : Int} {r : Bool}
    (hT : T.In w) (hi : i < T.n1) (hj : j < T.n2) (hpair : T.pair i j = .agg #[.iface 167 (.pointer (some ⟨b, 0, none⟩)), .iface 167 (.pointer (some ⟨c, 0, none⟩))])
    (hU1 : Calls Tryz.prog 65 #[x] w fun e w' => e = .returned (.iface 167 (.pointer (some ⟨b, 0, none⟩))) ∧ w' = w)
    (hU2 : Calls Tryz.prog 65 #[y] w fun e w' => e = .returned (.iface 167 (.pointer (some ⟨c, 0, none⟩))) ∧ w' = w)
    (hZ1 : Calls Tryz.prog 69 #[.iface 167 (.pointer (some ⟨b, 0, none⟩))] w fun e w' => e = .returned (.int .i64 4) ∧ w' = w)
    (hZ2 : Calls Tryz.prog 69 #[.iface 167 (.pointer (some ⟨c, 0, none⟩))] w fun e w' => e = .returned (.int .i64 4) ∧ w' = w)
    (hev : w.cell? ⟨3, 0, none⟩ = some (.iface 228 (.pointer (some a))))
    (hun : Unmet T w mv S (.agg #[.iface 167 (.pointer (some ⟨b, 0, none⟩)), .iface 167 (.pointer (some ⟨c, 0, none⟩))]))
    (x1 : w.cell? ⟨b, 1, none⟩ = some (.iface 151 (.pointer (some ⟨b1, 0, none⟩)))) (y1 : w.cell? ⟨c, 1, none⟩ = some (.iface 151 (.pointer (some ⟨c1, 0, none⟩))))
    (x2 : w.cell? ⟨b, 2, none⟩ = some (.int .u32 m1)) (y2 : w.cell? ⟨c, 2, none⟩ = some (.int .u32 m2))
    (hrec : ∀ W mb, CellsKept w W → Vis T W (fun x y => S x y ∨ (x = i ∧ y = j)) mb → Calls Tryz.prog 47 #[.iface 151 (.pointer (some ⟨b1, 0, none⟩)), .iface 151 (.pointer (some ⟨c1, 0, none⟩)), .map (some mb)] W (MRes T (.map (some mb)) (fun x y => S x y ∨ (x = i ∧ y = j)) r (.iface 228 (.pointer (some a))) W))
    (hd : (m1 == m2 && r) = true → T.Done i j) :
    Calls Tryz.prog 47 #[x, y, mv] w (MRes T mv S (m1 == m2 && r) (.iface 228 (.pointer (some a))) w) := by
  have lb := World.block_lt_of_cell? w _ x1
  have lc := World.block_lt_of_cell? w _ y1
  simp only at lb lc
  have HREC := Lib.hid hrec
  have HD := Lib.hid hd
  clear hrec hd
  have le := World.block_lt_of_cell? w _ hev
  simp only at le
  have hkey : PairKey w (.agg #[.iface 167 (.pointer (some ⟨b, 0, none⟩)), .iface 167 (.pointer (some ⟨c, 0, none⟩))]) := hpair ▸ hT.h1.pairKey hT.h2 hi hj
  have HT := Lib.hid hT
  have HU1 := Lib.hid hU1
  have HU2 := Lib.hid hU2
  have HZ1 := Lib.hid hZ1
  have HZ2 := Lib.hid hZ2
  obtain ⟨B, hEG, hB, hB1, hB0⟩ := hun.test
  have HB1 := Lib.hid hB1
  have HB0 := Lib.hid hB0
  have HUN := Lib.hid hun
  have HP := Lib.hid hpair
  clear hT hU1 hU2 hZ1 hZ2 hun hpair hB1 hB0
  go_enter Tryz.func47, Tryz.ntmps47
  go_wp2_with fail
  refine HU1.out.mono ?_
  rintro e w9 ⟨rfl, rfl⟩
  go_wp2_with fail
  refine HU2.out.mono ?_
  rintro e w8 ⟨rfl, rfl⟩
  go_wp2_with fail
  refine (name_Array _ _).mono ?_
  rintro e w7 ⟨rfl, rfl⟩
  go_wp2_with fail
  refine (name_Array _ _).mono ?_
  rintro e w6 ⟨rfl, rfl⟩
  go_wp2_with fail
  refine (names_any _ _ _ (by first | assumption | decide) (by first | assumption | decide)).mono ?_
  rintro e w5 ⟨rfl, rfl⟩
  rw [show ess ⟨#[]⟩ ⟨#[]⟩ = true from rfl]
  go_wp2_with fail
  refine HZ1.out.mono ?_
  rintro e w4 ⟨rfl, rfl⟩
  go_wp2_with fail
  refine HZ2.out.mono ?_
  rintro e w3 ⟨rfl, rfl⟩
  go_upto_if 65 with (at_lookup; refine wpList_look_un HUN.out rfl _ _ rfl rfl rfl hkey ?_)
  have hmm := @run_makeMap Tryz.prog
  go_cut [2] (fun s2 wx => Hid (Ready T w3 mv S (T.pair i j) s2 wx))
  case first =>
    cases B with
    | true =>
      have hmv := HB1.out rfl
      go_wp2_with fail
      go_meet
      refine Lib.hid ?_
      rw [hmv]
      exact Ready.made (by simp) ((Below.refl _ _).alloc (Nat.le_refl _) _)
    | false =>
      obtain ⟨mb, m, hmv, hmi, hn⟩ := HB0.out rfl
      go_wp2_with fail
      go_meet
      refine Lib.hid ?_
      rw [hmv]
      exact Ready.had hmi (by rw [HP.out]; exact hn) ((Below.refl _ _).alloc (Nat.le_refl _) _)
  case rest =>
    obtain ⟨mb, m, rfl, hmi, hn, hbm, hwh, hck⟩ := hcut.out
    rw [HP.out] at hn
    have hk1 := hkey.ck hck
    have K := pair_keys wc
    have hkeys := fun x u h => (hmi.keys x u h).1
    go_upto_region 13 with (at_mapUpdate; refine wpList_store rfl _ _ _ rfl Tryz.underlying157 K rfl hmi.mp hkeys _ (.agg #[]) rfl rfl hk1 hn ?_; intro w2 hg hs hm2)
    have AF := Lib.hid (Ready.entered HT.out hi hj HP.out hmi hbm hwh hck hg hm2)
    clear hmi hn hbm hwh hck hk1 K hkeys hg hs hm2 hcut
    have kx1 := AF.out.kept.cell x1
    have ky1 := AF.out.kept.cell y1
    have kx2 := AF.out.kept.cell x2
    have ky2 := AF.out.kept.cell y2
    have klb := Nat.lt_of_lt_of_le lb AF.out.kept.size
    have klc := Nat.lt_of_lt_of_le lc AF.out.kept.size
    have q0 := taNoVoid 167 (by decide)
    have q1 := taNoFwd 167 (by decide)
    have q2 := taNoEnum 167 (by decide)
    have q3 := lackCArray
    have q6 := taNoInt 167 (by decide)
    have q7 := taNoPointer 167 (by decide)
    have q4 := @ta_yes _ _ Tryz.underlying167
    have q5 := @taStrict _ _ Tryz.underlying167
    by_cases hm : m1 = m2
    · subst hm
      have HD2 : Hid (r = true → T.Done i j) := Lib.hid fun h => HD.out (by rw [beq_self_eq_true, h]; rfl)
      clear HD
      go_wp2_with fail
      go_quiet (fail)
      go_wp2_with fail
      refine wp_world (fun W => ∃ d, W = w2.drewN d) ⟨_, rfl⟩ (fun w0 hW => ?_)
      obtain ⟨d, hW⟩ := hW
      have hb0 : Below w2.heap.size w2 w0 := by rw [hW]; exact below_drewN (Below.refl _ _) _
      have AF0 := Lib.hid (AF.out.below hb0)
      have kx1 := AF0.out.kept.cell x1
      have ky1 := AF0.out.kept.cell y1
      have klb := Nat.lt_of_lt_of_le lb AF0.out.kept.size
      have klc := Nat.lt_of_lt_of_le lc AF0.out.kept.size
      clear hW hb0 AF x1 y1 x2 y2 kx2 ky2 lb lc le hev hkey HT HU1 HU2 HZ1 HZ2 HUN q0 q1 q2 q3 q4 q5 q6 q7
      go_wp2_with fail
      go_still_tail 9, (by kernel_rfl)
      go_wp2_with fail
      have AFd := Lib.hid (AF0.out.below ((Below.refl w0.heap.size w0).drew))
      clear AF0
      refine (HREC.out w0.drew mb AFd.out.kept AFd.out.vis).mono ?_
      rintro e w1 ⟨hres, hext⟩
      rcases hres with ⟨rfl, rfl, hv⟩ | ⟨rfl, rfl⟩
      · have AF1 := Lib.hid (AFd.out.call (hext.had _ rfl) (hv _ rfl))
        have hd := HD2.out rfl
        clear hv hext
        go_wp2_with fail
        go_ret
        rw [beq_self_eq_true]
        exact AF1.out.yes fun x y h => h.elim (fun h => h.imp id fun h => by rw [h.1, h.2]; exact hd) .inr
      · have HX := Lib.hid (AFd.out.extCall (hext.had _ rfl))
        clear hext
        go_wp2_with fail
        go_ret
        rw [beq_self_eq_true]
        exact ⟨.inr ⟨rfl, rfl⟩, HX.out⟩
    · have hmm' : (m1 != m2) = true := by simpa using hm
      have Hm := Lib.hid hm
      clear hm
      go_wp2_with fail
      go_quiet (fail)
      have AF0 := Lib.hid (AF.out.below (below_drewN (Below.refl w2.heap.size w2) nq))
      have hev1 := AF.out.kept.cell hev
      have le1 := Nat.lt_of_lt_of_le le AF.out.kept.size
      clear AF
      go_wp2_with fail
      go_ret
      rw [beq_eq_false_iff_ne.2 Hm.out, Bool.false_and]
      exact AF0.out.no
end
end Go.Proofs.YtfilbgmbmlmdbaaGreatDoor
