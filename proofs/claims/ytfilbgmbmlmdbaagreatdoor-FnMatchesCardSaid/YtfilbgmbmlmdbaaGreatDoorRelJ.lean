/- A fixup's parts, as they are told. Nothing is claimed here. -/
import Derived.Test.YtfilbgmbmlmdbaaGreatDoorRelI
namespace Go.Proofs.YtfilbgmbmlmdbaaGreatDoor
open Go.RowKit Go.MapKept

/-- What coreCalculateFixup gives, in later worlds too. -/
def CalcC (w : World) (x acc : Value) (k : Int) (id y rs : Value) (k' a b : Int) (p s : Bool) : Prop :=
  ∀ W cb bo, Below w.heap.size w W → Blk W cb #[x, acc, .int .u32 k, id] 112 →
    Calls Tryz.prog 44 #[.pointer (some ⟨cb, 0, none⟩), y, bo, rs] W fun e w' => e = .returned (.tuple #[fixV k' a b p s, .nilIface]) ∧ Below W.heap.size W w'
theorem results_tmp4 {fn : Func} {t u v x : Tmp} (h : fn.results = #[.tmp t, .tmp u, .tmp v, .tmp x]) (tmps : Array Value) (P : Program) (w : World) :
    (results fn tmps).run P w = .ok (.tuple #[tmps.getD t undef, tmps.getD u undef, tmps.getD v undef, tmps.getD x undef]) w := by
  simp [results, h]
theorem results_tmp5 {fn : Func} {t u v x y : Tmp} (h : fn.results = #[.tmp t, .tmp u, .tmp v, .tmp x, .tmp y]) (tmps : Array Value) (P : Program) (w : World) :
    (results fn tmps).run P w = .ok (.tuple #[tmps.getD t undef, tmps.getD u undef, tmps.getD v undef, tmps.getD x undef, tmps.getD y undef]) w := by
  simp [results, h]
set_option maxRecDepth 100000 in
set_option maxHeartbeats 4000000 in
theorem zzFixup_any (w : World) (xt : TypeId) (xv y rs : Value) (aa : Option Addr) (an ac : Nat) (k idn k' a b : Int) (p s big : Bool) (h : CalcC w (.iface xt xv) (.slice aa an ac) k (.int .u32 idn) y rs k' a b p s) :
    Calls Tryz.prog 38 #[.int .u32 k, .iface xt xv, .int .u32 idn, .slice aa an ac, y, .bool big, rs] w fun e w' => e = .returned (.tuple #[.int .u64 a, .int .u64 b, .bool p, .bool s, .nilIface]) ∧ Below w.heap.size w w' := by
  have H := Lib.hid h
  have hal := (Below.refl w.heap.size w).alloc (Nat.le_refl _) (.cells #[.iface xt xv, .slice aa an ac, .int .u32 k, .int .u32 idn] 112)
  have hbk := Blk.new w #[.iface xt xv, .slice aa an ac, .int .u32 k, .int .u32 idn] 112
  have Hal := Lib.hid hal
  have Hbk := Lib.hid hbk
  clear h hal hbk
  cases big with
  | true =>
    go_enter Tryz.func38, Tryz.ntmps38
    go_wp2_with fail
    refine (H.out _ _ _ Hal.out Hbk.out).mono ?_
    rintro e w9 ⟨rfl, hb9⟩
    have hb := Hal.out.trans (hb9.mono Hal.out.size)
    have hb2 := hb.alloc hb.size (.cells #[.int .u32 k', .int .u64 a, .int .u64 b, .bool p, .bool s] 106)
    go_wp2_with fail
    go_quiet (fail)
    go_wp2_with fail

    refine bodyPost_ret (results_tmp5 rfl _ _ _) rfl ?_
    exact ⟨rfl, below_drewN hb2 _⟩
  | false =>
    go_enter Tryz.func38, Tryz.ntmps38
    go_wp2_with fail
    refine (H.out _ _ _ Hal.out Hbk.out).mono ?_
    rintro e w9 ⟨rfl, hb9⟩
    have hb := Hal.out.trans (hb9.mono Hal.out.size)
    have hb2 := hb.alloc hb.size (.cells #[.int .u32 k', .int .u64 a, .int .u64 b, .bool p, .bool s] 106)
    go_wp2_with fail
    go_quiet (fail)
    go_wp2_with fail

    refine bodyPost_ret (results_tmp5 rfl _ _ _) rfl ?_
    exact ⟨rfl, below_drewN hb2 _⟩
#print axioms zzFixup_any
end Go.Proofs.YtfilbgmbmlmdbaaGreatDoor
