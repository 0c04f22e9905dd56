/- The law FnMatches holds for every input: a type matches another one where it says no more than that, by the package's own rule and by a relocation that asks for it. Condition: the package's six sentinel errors are what the program's text lays; the card ties that to the text. -/
import Derived.Test.YtfilbgmbmlmdbaaGreatDoorRows
import Derived.WalkKit
import Derived.ProofKit
import Derived.OpenShut
import Derived.ShutString
import Derived.ChangeOld
import Derived.Below
import Derived.Test.YtfilbgmbmlmdbaaGreatDoorSix
import Derived.Test.YtfilbgmbmlmdbaaGreatDoorWf
import Derived.Test.YtfilbgmbmlmdbaaGreatDoorListB
namespace Go.Proofs.YtfilbgmbmlmdbaaGreatDoor
open Go.ChangeShapes Go.WideShapes Go.ChangeAt Go.RowKit

theorem tryOwn : ownKnob Tryz.prog.godebug = none := by kernel_rfl
theorem tryLaidOut : laidOutB Tryz.prog = true := by kernel_rfl

/-- A slice of integers of kind k, as it came in: nil, or a row of cap cells that hold the numbers zs. -/
def IsRow (k : IntKind) (w : World) (a : Option Addr) (len cap : Nat) (zs : List Int) : Prop :=
  (a = none ∧ len = 0 ∧ cap = 0 ∧ zs = []) ∨
  ∃ x, a = some x ∧ len ≤ cap ∧ cap ≤ maxLen ∧ zs.length = cap ∧ (∀ i, i < zs.length → w.cell? (x.add i) = some (.int k (zs.getD i 0))) ∧ ∀ n ∈ zs, (Lit.int k n).wf = true
theorem IsRow.le {k : IntKind} {w : World} {a : Option Addr} {len cap : Nat} {zs : List Int} (h : IsRow k w a len cap zs) : len ≤ cap := by
  rcases h with ⟨_, rfl, rfl, _⟩ | ⟨_, _, h, _⟩
  · exact Nat.le_refl _
  · exact h
theorem IsRow.cells {k : IntKind} {w : World} {a : Option Addr} {len cap : Nat} {zs : List Int} (h : IsRow k w a len cap zs) :
    len = 0 ∨ ∃ b off, a = some ⟨b, off, none⟩ ∧ b < w.heap.size ∧ ∀ i, i < len → ∃ z : Int, w.cell? ⟨b, off + i, none⟩ = some (.int k z) ∧ (Lit.int k z).wf = true := by
  rcases h with ⟨_, h, _⟩ | ⟨x, rfl, hle, _, hz, hc, hw⟩
  · exact .inl h
  · by_cases h0 : len = 0
    · exact .inl h0
    obtain ⟨b, off, spot⟩ := x
    have hspot : spot = none := by simpa [Addr.add] using World.cell?_spot (hc 0 (by omega))
    subst hspot
    have hcc : ∀ i, i < len → w.cell? ⟨b, off + i, none⟩ = some (.int k (zs.getD i 0)) := fun i hi => by
      have := hc i (by omega)
      rwa [show (⟨b, off, none⟩ : Addr).add i = ⟨b, off + i, none⟩ by simp [Addr.add]] at this
    refine .inr ⟨b, off, rfl, ?_, fun i hi => ⟨_, hcc i hi, hw _ ?_⟩⟩
    · have h := hcc 0 (by omega)
      simp only [World.cell?] at h
      cases hb : w.heap[b]? with
      | none => rw [hb] at h; simp at h
      | some o => exact (Array.getElem?_eq_some_iff.1 hb).1
    · have hi' : i < zs.length := by omega
      rw [List.getD_eq_getElem?_getD, List.getElem?_eq_getElem hi', Option.getD_some]
      exact List.getElem_mem hi'
end Go.Proofs.YtfilbgmbmlmdbaaGreatDoor

namespace Go.Proofs.YtfilbgmbmlmdbaaGreatDoor
open Go.ChangeShapes Go.WideShapes Go.ChangeAt Go.RowKit
set_option linter.unusedVariables false

def FnMatchesWalk : Prop := ∀ (a0 : Option Addr) (len0 cap0 : Nat) (z0 : List Int) (a1 : Option Addr) (len1 cap1 : Nat) (z1 : List Int) (a2 : Bool) (a3 : Int) (w : World) (a : Nat → Addr), Six w a → ∀ (w0 : IsRow .u32 w a0 len0 cap0 z0) (w1 : IsRow .u32 w a1 len1 cap1 z1) (w3 : (Lit.int .u8 a3).wf = true),
    Calls Tryz.prog 6 #[.slice a0 len0 cap0, .slice a1 len1 cap1, .bool a2, .int .u8 a3] w fun e w' => e = .returned (.bool true) ∧ Below w.heap.size w w'

theorem six_reads_m {H : Type} (enc : TypeId × Value → H) {W : World} {a : Nat → Addr} (h : Six W a) (sp : Nat → Bool) :
    DataW.TrodVars enc Tryz.prog W sp ["loop.example/pub-g03460/pub/ebpfbtf.errIncompatibleTypes", "loop.example/pub-g03460/pub/ebpfbtf.errImpossibleRelocation", "loop.example/pub-g03460/pub/ebpfbtf.ErrNotSupported", "loop.example/pub-g03460/pub/ebpfbtf.ErrNotFound", "loop.example/pub-g03460/pub/ebpfbtf.errNoSignedness", "loop.example/pub-g03460/pub/ebpfbtf.errUnsizedType"]
      [tok enc (.iface 228 (.pointer (some (a 3)))), tok enc (.iface 228 (.pointer (some (a 4)))), tok enc (.iface 228 (.pointer (some (a 6)))), tok enc (.iface 228 (.pointer (some (a 0)))), tok enc (.iface 228 (.pointer (some (a 5)))), tok enc (.iface 228 (.pointer (some (a 7))))]
      [.cell 3 0, .cell 4 0, .cell 6 0, .cell 0 0, .cell 5 0, .cell 7 0] :=
  ⟨3, 84, #[.iface 228 (.pointer (some (a 3)))], 1, [], [.cell 4 0, .cell 6 0, .cell 0 0, .cell 5 0, .cell 7 0], zG3, zT3, h.v3, trod_held (v := .iface 228 (.pointer (some (a 3)))) Tryz.underlying84 trivial 0, ⟨4, 84, #[.iface 228 (.pointer (some (a 4)))], 1, [], [.cell 6 0, .cell 0 0, .cell 5 0, .cell 7 0], zG4, zT4, h.v4, trod_held (v := .iface 228 (.pointer (some (a 4)))) Tryz.underlying84 trivial 0, ⟨6, 84, #[.iface 228 (.pointer (some (a 6)))], 1, [], [.cell 0 0, .cell 5 0, .cell 7 0], zG6, zT6, h.v6, trod_held (v := .iface 228 (.pointer (some (a 6)))) Tryz.underlying84 trivial 0, ⟨0, 84, #[.iface 228 (.pointer (some (a 0)))], 1, [], [.cell 5 0, .cell 7 0], zG0, zT0, h.v0, trod_held (v := .iface 228 (.pointer (some (a 0)))) Tryz.underlying84 trivial 0, ⟨5, 84, #[.iface 228 (.pointer (some (a 5)))], 1, [], [.cell 7 0], zG5, zT5, h.v5, trod_held (v := .iface 228 (.pointer (some (a 5)))) Tryz.underlying84 trivial 0, ⟨7, 84, #[.iface 228 (.pointer (some (a 7)))], 1, [], [], zG7, zT7, h.v7, trod_held (v := .iface 228 (.pointer (some (a 7)))) Tryz.underlying84 trivial 0, rfl, rfl⟩, rfl⟩, rfl⟩, rfl⟩, rfl⟩, rfl⟩
set_option maxRecDepth 100000 in
theorem fnMatches_lifted (hwalk : FnMatchesWalk) (os : Os) (started : os.Started) (H : Type) (enc : TypeId × Value → H) :
    ReturnsInHanded {} Tryz.checked os 6 .any (fun w args => (Rows.fnMatchesSpec.pre enc Tryz.prog Tryz.f6 [] false w args ∧ laidMetH Tryz.prog Rows.fnMatchesRow.laid w) ∧ sizedMet enc Tryz.prog Tryz.f6 (OpenSpec.ofChange Rows.fnMatchesSpec) false w args)
      (Rows.fnMatchesSpec.post enc Tryz.prog Tryz.f6 false true false false) := by
  refine returnsInHanded_of_change_and (C := Tryz.checked) (X := fun w _ => laidMetH Tryz.prog Rows.fnMatchesRow.laid w) (fun _ _ _ hh h => h.of_heap hh) zOwn started (by kernel_rfl) Tryz.func6
    (ChangeSpec.witness_at (enc := enc) (C := Tryz.checked) (os := os) (X := fun w _ => laidMetH Tryz.prog Rows.fnMatchesRow.laid w) false (zWorld os) #[.slice none 0 0, .slice none 0 0, .bool false, .int .u8 0] 8 rfl (by kernel_rfl) (by kernel_rfl) (by kernel_rfl) (by kernel_rfl) (by kernel_rfl) (zWorld_met os _)) ?_
  intro W base args ds gs before hval0 hW _ _ hL _
  have hval : ∀ (j : Nat) t v, Tryz.f6.params[j]? = some t → args[j]? = some v → Value.okWide Tryz.prog W .any base t v := hval0
  have hW' := hW
  obtain ⟨p, q, hA0, hV0, rfl, hfz, hnd⟩ := hW
  have hA : DataW.TrodAll enc Tryz.prog W 0 (fun _ => true) true Tryz.f6.params.toList args.toList ds p := hA0
  have hL' : laidMet Tryz.prog Rows.fnMatchesRow.laid W := hL
  obtain ⟨a, six⟩ := six_of_laid hL'
  rw [Tryz.params6] at hA hval
  obtain ⟨v0, vs0, d0, ds0, p0, q0, hargs, rfl, rfl, h0, r0⟩ := trodAll_cons hA
  obtain ⟨v1, vs1, d1, ds1, p1, q1, rfl, rfl, rfl, h1, r1⟩ := trodAll_cons r0
  obtain ⟨v2, vs2, d2, ds2, p2, q2, rfl, rfl, rfl, h2, r2⟩ := trodAll_cons r1
  obtain ⟨v3, vs3, d3, ds3, p3, q3, rfl, rfl, rfl, h3, r3⟩ := trodAll_cons r2
  obtain ⟨rfl, rfl, rfl⟩ := trodAll_nil r3
  obtain rfl : args = #[v0, v1, v2, v3] := by cases args; simp_all
  obtain ⟨a0, len0, cap0, rfl⟩ := okWide_slice Tryz.underlying22 (hval 0 22 v0 rfl rfl)
  have k0 := h0
  have lt0 : ∀ x ∈ p0, x.block < W.heap.size := by obtain ⟨m, hm⟩ := k0; exact DataW.trod_lt m _ _ _ hm
  obtain ⟨z0, w0⟩ : ∃ zs, IsRow .u32 W a0 len0 cap0 zs := by
    obtain ⟨fuel, hf⟩ := h0
    rcases open_ints Tryz.underlying22 Tryz.underlying49 (by kernel_rfl) hf with ⟨hcs, _⟩ | ⟨x, l, c, zs, hcs, _, hl, hm, hz, _, hcell, hwz⟩
    · simp [Value.cells] at hcs
      obtain ⟨rfl, rfl, rfl⟩ := hcs
      exact ⟨[], .inl ⟨rfl, rfl, rfl, rfl⟩⟩
    · simp [Value.cells] at hcs
      obtain ⟨rfl, rfl, rfl⟩ := hcs
      exact ⟨zs, .inr ⟨_, rfl, hl, hm, by simpa using hz, hcell, hwz⟩⟩
  obtain ⟨a1, len1, cap1, rfl⟩ := okWide_slice Tryz.underlying22 (hval 1 22 v1 rfl rfl)
  have k1 := h1
  have lt1 : ∀ x ∈ p1, x.block < W.heap.size := by obtain ⟨m, hm⟩ := k1; exact DataW.trod_lt m _ _ _ hm
  obtain ⟨z1, w1⟩ : ∃ zs, IsRow .u32 W a1 len1 cap1 zs := by
    obtain ⟨fuel, hf⟩ := h1
    rcases open_ints Tryz.underlying22 Tryz.underlying49 (by kernel_rfl) hf with ⟨hcs, _⟩ | ⟨x, l, c, zs, hcs, _, hl, hm, hz, _, hcell, hwz⟩
    · simp [Value.cells] at hcs
      obtain ⟨rfl, rfl, rfl⟩ := hcs
      exact ⟨[], .inl ⟨rfl, rfl, rfl, rfl⟩⟩
    · simp [Value.cells] at hcs
      obtain ⟨rfl, rfl, rfl⟩ := hcs
      exact ⟨zs, .inr ⟨_, rfl, hl, hm, by simpa using hz, hcell, hwz⟩⟩
  obtain ⟨a2, rfl, rfl, rfl⟩ := open_bool Tryz.underlying4 (hval 2 4 v2 rfl rfl) h2
  obtain ⟨a3, rfl, rfl, rfl, w3⟩ := open_int Tryz.underlying5 (hval 3 5 v3 rfl rfl) h3
  obtain ⟨rfl, rfl⟩ := hV0.unique (six_reads_m enc six _)
  clear hA0 hV0 hval0
  refine (hwalk a0 len0 cap0 z0 a1 len1 cap1 z1 a2 a3 W a six w0 w1 w3).mono fun e W' ⟨he, bel⟩ => ?_
  subst he
  exact ⟨_, rfl, _, _, _, [], _, _, hW', trodAll_mk1 (shut_bool Tryz.underlying4 _), (trodAll_cons_mk (Below.trod zLaidOut (by kernel_rfl) (of_decide_eq_true (by kernel_rfl)) k0 bel lt0) (trodAll_cons_mk (Below.trod zLaidOut (by kernel_rfl) (of_decide_eq_true (by kernel_rfl)) k1 bel lt1) (trodAll_cons_mk (shut_bool Tryz.underlying4 _) (trodAll_cons_mk (shut_int Tryz.underlying5 w3) trodAll_mk0)))), six_reads_m enc (six.below bel) _, bel.frame _, fun h => by cases h⟩

theorem fnMatches_over (hwalk : FnMatchesWalk) : Rows.FnMatchesSaid :=
  OpenClaim.holds_of_wide 6 Tryz.f6 rfl rfl rfl rfl rfl rfl rfl ⟨rfl, rfl, rfl, rfl, rfl⟩ rfl rfl rfl rfl rfl (by kernel_rfl) Tryz.func6 (by kernel_rfl)
    (of_decide_eq_true (by kernel_rfl)) (by unfold Func.isWrapper; first | (rw [if_pos (by decide +kernel)]; kernel_rfl) | (rw [if_neg (by decide +kernel)]; exact ⟨rfl, rfl⟩))
    (fun os started H enc _ => fnMatches_lifted hwalk os started H enc)
theorem fnMatches_card (hwalk : FnMatchesWalk) : Rows.FnMatchesCardSaid :=
  Claim7.holds_tied_plain_at .later [] [.sentinel, .sentinel, .sentinel, .sentinel, .sentinel, .sentinel] true (true, "f3a87857b57c60e4630cb835b41fd08867818bbddad6554f5fc951a0b55a9816") true
    (fnMatches_over hwalk) (fun _ h => by cases h) (by kernel_rfl) (fun _ h => by cases h) fnMatches_row_tie rfl ⟨rfl, rfl⟩ (by kernel_rfl) rfl
    (fun f fn hf hfn => by
      obtain rfl : f = 6 := Option.some.inj ((show Tryz.prog.funcNamed "loop.example/pub-g03460/laws.FnMatches" = some 6 by kernel_rfl).symm.trans hf) |>.symm
      obtain rfl : fn = Tryz.f6 := (Option.some.inj (Tryz.func6.symm.trans hfn)).symm
      exact ⟨by kernel_rfl, fun j t ht => by
        rw [Tryz.params6] at ht
        have h3 : t = 22 ∨ t = 4 ∨ t = 5 := by
          rcases j with _ | _ | _ | _ | j <;> simp at ht <;> simp [ht.symm]
        rcases h3 with rfl | rfl | rfl
        · exact (show Tryz.prog.wantsStandIn 22 = false by kernel_rfl)
        · exact (show Tryz.prog.wantsStandIn 4 = false by kernel_rfl)
        · exact (show Tryz.prog.wantsStandIn 5 = false by kernel_rfl)⟩)
    (by kernel_rfl)
end Go.Proofs.YtfilbgmbmlmdbaaGreatDoor

namespace Go.Proofs.YtfilbgmbmlmdbaaGreatDoor
open Go.RowKit

theorem wf_u8 {z : Int} (h : (Lit.int .u8 z).wf = true) : ∃ a : Nat, z = (a : Int) ∧ a < 256 := by
  have h1 : IntKind.u8.min = 0 := rfl
  have h2 : IntKind.u8.max = 255 := rfl
  simp only [Lit.wf, Bool.and_eq_true, decide_eq_true_eq] at h
  exact ⟨z.toNat, by omega, by omega⟩
theorem wf_u32 {z : Int} (h : (Lit.int .u32 z).wf = true) : 0 ≤ z ∧ z < 4294967296 := by
  have h1 : IntKind.u32.min = 0 := rfl
  have h2 : IntKind.u32.max = 4294967295 := rfl
  simp only [Lit.wf, Bool.and_eq_true, decide_eq_true_eq] at h
  omega
theorem IsRow.u32s {w : World} {a : Option Addr} {len cap : Nat} {zs : List Int} (h : IsRow .u32 w a len cap zs) : U32s w (.slice a len cap) len := by
  refine ⟨a, cap, rfl, h.cells.imp id ?_⟩
  rintro ⟨b, off, rfl, hb, hc⟩
  refine ⟨b, off, rfl, hb, fun i hi => ?_⟩
  obtain ⟨z, h1, h2⟩ := hc i hi
  exact ⟨z, h1, wf_u32 h2⟩
theorem fnMatches_walk : FnMatchesWalk := by
  intro a0 len0 cap0 z0 a1 len1 cap1 z1 a2 a3 w a six w0 w1 w3
  obtain ⟨av, rfl, _⟩ := wf_u8 w3
  exact FnMatches_of put_any w len0 len1 cap0 a0 (.slice a1 len1 cap1) a2 av w0.u32s w1.u32s w0.le (World.var?_cell zG3 six.v3 0)

/-- The statement. -/
theorem fnMatches_holds : Rows.FnMatchesCardSaid := fnMatches_card fnMatches_walk
#print axioms fnMatches_holds
end Go.Proofs.YtfilbgmbmlmdbaaGreatDoor
