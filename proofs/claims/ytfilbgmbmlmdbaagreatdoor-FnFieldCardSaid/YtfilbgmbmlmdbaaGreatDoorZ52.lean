/- The row and the card of FnField, from the walk of its function. Nothing is claimed here. -/
import Derived.Test.YtfilbgmbmlmdbaaGreatDoorZ39
import Derived.Test.YtfilbgmbmlmdbaaGreatDoorZ51
set_option linter.unusedSimpArgs false
set_option linter.unusedVariables false
set_option maxRecDepth 1000000
set_option maxHeartbeats 16000000
namespace Go.Proofs.YtfilbgmbmlmdbaaGreatDoor
open Go.ChangeShapes Go.WideShapes Go.ChangeAt Go.RowKit
def FnFieldWalk : Prop := ∀ (a0 : Option Addr) (len0 cap0 : Nat) (z0 : List Int) (a1 : Option Addr) (len1 cap1 : Nat) (z1 : List Int) (a2 : Option Addr) (len2 cap2 : Nat) (z2 : List Int) (a3 : Int) (a4 : Bool) (w : World) (a : Nat → Addr), Six w a → SixE w a → ∀ (w0 : IsRow .u32 w a0 len0 cap0 z0) (w1 : IsRow .u32 w a1 len1 cap1 z1) (w2 : IsRow .u8 w a2 len2 cap2 z2) (w3 : (Lit.int .u8 a3).wf = true),
  Calls Tryz.prog 3 #[.slice a0 len0 cap0, .slice a1 len1 cap1, .slice a2 len2 cap2, .int .u8 a3, .bool a4] w fun e w' => e = .returned (.bool true) ∧ Below w.heap.size w w'
theorem six_reads_f {H : Type} (enc : TypeId × Value → H) {W : World} {a : Nat → Addr} (h : Six W a) (sp : Nat → Bool) :
  DataW.TrodVars enc Tryz.prog W sp ["loop.example/pub-g03460/pub/ebpfbtf.ErrNotFound", "loop.example/pub-g03460/pub/ebpfbtf.errIncompatibleTypes", "loop.example/pub-g03460/pub/ebpfbtf.errImpossibleRelocation", "loop.example/pub-g03460/pub/ebpfbtf.errNoSignedness", "loop.example/pub-g03460/pub/ebpfbtf.ErrNotSupported", "loop.example/pub-g03460/pub/ebpfbtf.errUnsizedType"]
   [tok enc (.iface 228 (.pointer (some (a 0)))), tok enc (.iface 228 (.pointer (some (a 3)))), tok enc (.iface 228 (.pointer (some (a 4)))), tok enc (.iface 228 (.pointer (some (a 5)))), tok enc (.iface 228 (.pointer (some (a 6)))), tok enc (.iface 228 (.pointer (some (a 7))))]
   [.cell 0 0, .cell 3 0, .cell 4 0, .cell 5 0, .cell 6 0, .cell 7 0] :=
 ⟨0, 84, #[.iface 228 (.pointer (some (a 0)))], 1, [], [.cell 3 0, .cell 4 0, .cell 5 0, .cell 6 0, .cell 7 0], zG0, zT0, h.v0, trod_held (v := .iface 228 (.pointer (some (a 0)))) Tryz.underlying84 trivial 0, ⟨3, 84, #[.iface 228 (.pointer (some (a 3)))], 1, [], [.cell 4 0, .cell 5 0, .cell 6 0, .cell 7 0], zG3, zT3, h.v3, trod_held (v := .iface 228 (.pointer (some (a 3)))) Tryz.underlying84 trivial 0, ⟨4, 84, #[.iface 228 (.pointer (some (a 4)))], 1, [], [.cell 5 0, .cell 6 0, .cell 7 0], zG4, zT4, h.v4, trod_held (v := .iface 228 (.pointer (some (a 4)))) Tryz.underlying84 trivial 0, ⟨5, 84, #[.iface 228 (.pointer (some (a 5)))], 1, [], [.cell 6 0, .cell 7 0], zG5, zT5, h.v5, trod_held (v := .iface 228 (.pointer (some (a 5)))) Tryz.underlying84 trivial 0, ⟨6, 84, #[.iface 228 (.pointer (some (a 6)))], 1, [], [.cell 7 0], zG6, zT6, h.v6, trod_held (v := .iface 228 (.pointer (some (a 6)))) Tryz.underlying84 trivial 0, ⟨7, 84, #[.iface 228 (.pointer (some (a 7)))], 1, [], [], zG7, zT7, h.v7, trod_held (v := .iface 228 (.pointer (some (a 7)))) Tryz.underlying84 trivial 0, rfl, rfl⟩, rfl⟩, rfl⟩, rfl⟩, rfl⟩, rfl⟩
theorem fnField_lifted (hwalk : FnFieldWalk) (os : Os) (started : os.Started) (H : Type) (enc : TypeId × Value → H) :
  ReturnsInHanded {} Tryz.checked os 3 .any (fun w args => (Rows.fnFieldSpec.pre enc Tryz.prog Tryz.f3 [] false w args ∧ laidMetH Tryz.prog Rows.fnFieldRow.laid w) ∧ sizedMet enc Tryz.prog Tryz.f3 (OpenSpec.ofChange Rows.fnFieldSpec) false w args)
   (Rows.fnFieldSpec.post enc Tryz.prog Tryz.f3 false true false false) := by
 refine returnsInHanded_of_change_and (C := Tryz.checked) (X := fun w _ => laidMetH Tryz.prog Rows.fnFieldRow.laid w) (fun _ _ _ hh h => h.of_heap hh) zOwn started (by kernel_rfl) Tryz.func3
  (ChangeSpec.witness_at (enc := enc) (C := Tryz.checked) (os := os) (X := fun w _ => laidMetH Tryz.prog Rows.fnFieldRow.laid w) false (zWorld os) #[.slice none 0 0, .slice none 0 0, .slice none 0 0, .int .u8 0, .bool false] 8 rfl (by kernel_rfl) (by kernel_rfl) (by kernel_rfl) (by kernel_rfl) (by kernel_rfl) (zWorld_met os _)) ?_
 intro W base args ds gs before hval0 hW _ _ hL _
 have hval : ∀ (j : Nat) t v, Tryz.f3.params[j]? = some t → args[j]? = some v → Value.okWide Tryz.prog W .any base t v := hval0
 have hW' := hW
 obtain ⟨p, q, hA0, hV0, rfl, hfz, hnd⟩ := hW
 have hA : DataW.TrodAll enc Tryz.prog W 0 (fun _ => true) true Tryz.f3.params.toList args.toList ds p := hA0
 have hL' : laidMet Tryz.prog Rows.fnFieldRow.laid W := hL
 obtain ⟨a, six⟩ := six_of_laid hL'
 have sixe := sixE_of_laid hL' six
 rw [Tryz.params3] at hA hval
 obtain ⟨v0, vs0, d0, ds0, p0, q0, hargs, rfl, rfl, h0, r0⟩ := trodAll_cons hA
 obtain ⟨v1, vs1, d1, ds1, p1, q1, rfl, rfl, rfl, h1, r1⟩ := trodAll_cons r0
 obtain ⟨v2, vs2, d2, ds2, p2, q2, rfl, rfl, rfl, h2, r2⟩ := trodAll_cons r1
 obtain ⟨v3, vs3, d3, ds3, p3, q3, rfl, rfl, rfl, h3, r3⟩ := trodAll_cons r2
 obtain ⟨v4, vs4, d4, ds4, p4, q4, rfl, rfl, rfl, h4, r4⟩ := trodAll_cons r3
 obtain ⟨rfl, rfl, rfl⟩ := trodAll_nil r4
 obtain rfl : args = #[v0, v1, v2, v3, v4] := by cases args; simp_all
 obtain ⟨a0, len0, cap0, rfl⟩ := okWide_slice Tryz.underlying22 (hval 0 22 v0 rfl rfl)
 have k0 := h0
 have lt0 : ∀ x ∈ p0, x.block < W.heap.size := by obtain ⟨m, hm⟩ := k0; exact DataW.trod_lt m _ _ _ hm
 obtain ⟨z0, w0⟩ : ∃ zs, IsRow .u32 W a0 len0 cap0 zs := by
  obtain ⟨fuel, hf⟩ := h0
  rcases open_ints Tryz.underlying22 Tryz.underlying49 (by kernel_rfl) hf with ⟨hcs, _⟩ | ⟨x, l, c, zs, hcs, _, hl, hm, hz, _, hcell, hwz⟩
  ·simp [Value.cells] at hcs
   obtain ⟨rfl, rfl, rfl⟩ := hcs
   exact ⟨[], .inl ⟨rfl, rfl, rfl, rfl⟩⟩
  ·simp [Value.cells] at hcs
   obtain ⟨rfl, rfl, rfl⟩ := hcs
   exact ⟨zs, .inr ⟨_, rfl, hl, hm, by simpa using hz, hcell, hwz⟩⟩
 obtain ⟨a1, len1, cap1, rfl⟩ := okWide_slice Tryz.underlying22 (hval 1 22 v1 rfl rfl)
 have k1 := h1
 have lt1 : ∀ x ∈ p1, x.block < W.heap.size := by obtain ⟨m, hm⟩ := k1; exact DataW.trod_lt m _ _ _ hm
 obtain ⟨z1, w1⟩ : ∃ zs, IsRow .u32 W a1 len1 cap1 zs := by
  obtain ⟨fuel, hf⟩ := h1
  rcases open_ints Tryz.underlying22 Tryz.underlying49 (by kernel_rfl) hf with ⟨hcs, _⟩ | ⟨x, l, c, zs, hcs, _, hl, hm, hz, _, hcell, hwz⟩
  ·simp [Value.cells] at hcs
   obtain ⟨rfl, rfl, rfl⟩ := hcs
   exact ⟨[], .inl ⟨rfl, rfl, rfl, rfl⟩⟩
  ·simp [Value.cells] at hcs
   obtain ⟨rfl, rfl, rfl⟩ := hcs
   exact ⟨zs, .inr ⟨_, rfl, hl, hm, by simpa using hz, hcell, hwz⟩⟩
 obtain ⟨a2, len2, cap2, rfl⟩ := okWide_slice Tryz.underlying23 (hval 2 23 v2 rfl rfl)
 have k2 := h2
 have lt2 : ∀ x ∈ p2, x.block < W.heap.size := by obtain ⟨m, hm⟩ := k2; exact DataW.trod_lt m _ _ _ hm
 obtain ⟨z2, w2⟩ : ∃ zs, IsRow .u8 W a2 len2 cap2 zs := by
  obtain ⟨fuel, hf⟩ := h2
  rcases open_ints Tryz.underlying23 Tryz.underlying5 (by kernel_rfl) hf with ⟨hcs, _⟩ | ⟨x, l, c, zs, hcs, _, hl, hm, hz, _, hcell, hwz⟩
  ·simp [Value.cells] at hcs
   obtain ⟨rfl, rfl, rfl⟩ := hcs
   exact ⟨[], .inl ⟨rfl, rfl, rfl, rfl⟩⟩
  ·simp [Value.cells] at hcs
   obtain ⟨rfl, rfl, rfl⟩ := hcs
   exact ⟨zs, .inr ⟨_, rfl, hl, hm, by simpa using hz, hcell, hwz⟩⟩
 obtain ⟨a3, rfl, rfl, rfl, w3⟩ := open_int Tryz.underlying5 (hval 3 5 v3 rfl rfl) h3
 obtain ⟨a4, rfl, rfl, rfl⟩ := open_bool Tryz.underlying4 (hval 4 4 v4 rfl rfl) h4
 obtain ⟨rfl, rfl⟩ := hV0.unique (six_reads_f enc six _)
 clear hA0 hV0 hval0
 refine (hwalk a0 len0 cap0 z0 a1 len1 cap1 z1 a2 len2 cap2 z2 a3 a4 W a six sixe w0 w1 w2 w3).mono fun e W' ⟨he, bel⟩ => ?_
 subst he
 exact ⟨_, rfl, _, _, _, [], _, _, hW', trodAll_mk1 (shut_bool Tryz.underlying4 _), (trodAll_cons_mk (Below.trod zLaidOut (by kernel_rfl) (of_decide_eq_true (by kernel_rfl)) k0 bel lt0) (trodAll_cons_mk (Below.trod zLaidOut (by kernel_rfl) (of_decide_eq_true (by kernel_rfl)) k1 bel lt1) (trodAll_cons_mk (Below.trod zLaidOut (by kernel_rfl) (of_decide_eq_true (by kernel_rfl)) k2 bel lt2) (trodAll_cons_mk (shut_int Tryz.underlying5 w3) (trodAll_cons_mk (shut_bool Tryz.underlying4 _) trodAll_mk0))))), six_reads_f enc (six.below bel) _, bel.frame _, fun h => by cases h⟩
theorem fnField_over (hwalk : FnFieldWalk) : Rows.FnFieldSaid :=
 OpenClaim.holds_of_wide 3 Tryz.f3 rfl rfl rfl rfl rfl rfl rfl ⟨rfl, rfl, rfl, rfl, rfl⟩ rfl rfl rfl rfl rfl (by kernel_rfl) Tryz.func3 (by kernel_rfl)
  (of_decide_eq_true (by kernel_rfl)) (by unfold Func.isWrapper; first | (rw [if_pos (by decide +kernel)]; kernel_rfl) | (rw [if_neg (by decide +kernel)]; exact ⟨rfl, rfl⟩))
  (fun os started H enc _ => fnField_lifted hwalk os started H enc)
theorem fnField_card (hwalk : FnFieldWalk) : Rows.FnFieldCardSaid :=
 Claim7.holds_tied_plain_at .later [] [.sentinel, .sentinel, .sentinel, .sentinel, .sentinel, .sentinel] true (true, "f3a87857b57c60e4630cb835b41fd08867818bbddad6554f5fc951a0b55a9816") true
  (fnField_over hwalk) (fun _ h => by cases h) (by kernel_rfl) (fun _ h => by cases h) fnField_row_tie rfl ⟨rfl, rfl⟩ (by kernel_rfl) rfl
  (fun f fn hf hfn => by
   obtain rfl : f = 3 := Option.some.inj ((show Tryz.prog.funcNamed "loop.example/pub-g03460/laws.FnField" = some 3 by kernel_rfl).symm.trans hf) |>.symm
   obtain rfl : fn = Tryz.f3 := (Option.some.inj (Tryz.func3.symm.trans hfn)).symm
   exact ⟨by kernel_rfl, fun j t ht => by
    rw [Tryz.params3] at ht
    have h3 : t = 22 ∨ t = 23 ∨ t = 5 ∨ t = 4 := by
     rcases j with _ | _ | _ | _ | _ | j <;> simp at ht <;> simp [ht.symm]
    rcases h3 with rfl | rfl | rfl | rfl
    ·exact (show Tryz.prog.wantsStandIn 22 = false by kernel_rfl)
    ·exact (show Tryz.prog.wantsStandIn 23 = false by kernel_rfl)
    ·exact (show Tryz.prog.wantsStandIn 5 = false by kernel_rfl)
    ·exact (show Tryz.prog.wantsStandIn 4 = false by kernel_rfl)⟩)
  (by kernel_rfl)
end Go.Proofs.YtfilbgmbmlmdbaaGreatDoor
