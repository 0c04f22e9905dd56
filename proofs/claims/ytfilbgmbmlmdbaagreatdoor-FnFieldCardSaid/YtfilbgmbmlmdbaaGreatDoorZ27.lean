/- A fixup's parts, as they are told: of accessors of any length, and of errors. Nothing is claimed here. -/
import Derived.Test.YtfilbgmbmlmdbaaGreatDoorZ12
import Derived.Test.YtfilbgmbmlmdbaaGreatDoorZ16
import Derived.Test.YtfilbgmbmlmdbaaGreatDoorZ21
set_option linter.unusedSimpArgs false
set_option linter.unusedVariables false
set_option maxRecDepth 1000000
set_option maxHeartbeats 16000000
namespace Go.Proofs.YtfilbgmbmlmdbaaGreatDoor
open Go.RowKit Go.MapKept
def boV (big : Bool) : Value := if big then .iface 103 (.agg #[]) else .iface 100 (.agg #[])
def ErrV (ok : Bool) (ev : Value) : Prop := if ok then ev = .nilIface else ∃ b, ev = .iface 228 (.pointer (some b))
def CalcX (w : World) (x acc : Value) (k : Int) (id y rs : Value) (big : Bool) (k' a b : Int) (p ok : Bool) : Prop :=
 ∀ W cb, Below w.heap.size w W → Blk W cb #[x, acc, .int .u32 k, id] 112 →
  Calls Tryz.prog 44 #[.pointer (some ⟨cb, 0, none⟩), y, boV big, rs] W fun e w' => (∃ s ev, e = .returned (.tuple #[fixV k' a b p s, ev]) ∧ ErrV ok ev) ∧ Below W.heap.size W w'
theorem zzFixupX_any (w : World) (xt : TypeId) (xv y rs : Value) (aa : Option Addr) (an ac : Nat) (k idn k' a b : Int) (p ok big : Bool) (h : CalcX w (.iface xt xv) (.slice aa an ac) k (.int .u32 idn) y rs big k' a b p ok) :
  Calls Tryz.prog 38 #[.int .u32 k, .iface xt xv, .int .u32 idn, .slice aa an ac, y, .bool big, rs] w fun e w' => (∃ s ev, e = .returned (.tuple #[.int .u64 a, .int .u64 b, .bool p, .bool s, ev]) ∧ ErrV ok ev) ∧ Below w.heap.size w w' := by
 have H := Lib.hid h
 have hal := (Below.refl w.heap.size w).alloc (Nat.le_refl _) (.cells #[.iface xt xv, .slice aa an ac, .int .u32 k, .int .u32 idn] 112)
 have hbk := Blk.new w #[.iface xt xv, .slice aa an ac, .int .u32 k, .int .u32 idn] 112
 have Hal := Lib.hid hal
 have Hbk := Lib.hid hbk
 clear h hal hbk
 cases big with
 | true =>
  go_enter Tryz.func38, Tryz.ntmps38
  go_wp2_with fail
  refine (H.out _ _ Hal.out Hbk.out).mono ?_
  rintro e w9 ⟨⟨s, ev, rfl, hev⟩, hb9⟩
  have hb := Hal.out.trans (hb9.mono Hal.out.size)
  have hb2 := Lib.hid (hb.alloc hb.size (.cells #[.int .u32 k', .int .u64 a, .int .u64 b, .bool p, .bool s] 106))
  have HE := Lib.hid hev
  clear hb hb9 hev
  go_wp2_with fail
  go_quiet (fail)
  go_wp2_with fail
  refine bodyPost_ret (results_tmp5 rfl _ _ _) rfl ?_
  exact ⟨⟨s, ev, rfl, HE.out⟩, below_drewN hb2.out _⟩
 | false =>
  go_enter Tryz.func38, Tryz.ntmps38
  go_wp2_with fail
  refine (H.out _ _ Hal.out Hbk.out).mono ?_
  rintro e w9 ⟨⟨s, ev, rfl, hev⟩, hb9⟩
  have hb := Hal.out.trans (hb9.mono Hal.out.size)
  have hb2 := Lib.hid (hb.alloc hb.size (.cells #[.int .u32 k', .int .u64 a, .int .u64 b, .bool p, .bool s] 106))
  have HE := Lib.hid hev
  clear hb hb9 hev
  go_wp2_with fail
  go_quiet (fail)
  go_wp2_with fail
  refine bodyPost_ret (results_tmp5 rfl _ _ _) rfl ?_
  exact ⟨⟨s, ev, rfl, HE.out⟩, below_drewN hb2.out _⟩
theorem wpList_accApp {P : Program} {ops : Array Oper} {rest : List Oper} {o : Oper} {a : Act} {w : World} {Q : Exit → Act → World → Prop} {t e : TypeId} (H : ElemOk P t e 1 8) (s x : Operand) (hgd : o.guard = none) (ho : o.op = .call { callee := .builtin .append, args := #[s, x], argTypes := #[t, t] })
  (hs : a.eval s = .slice none 0 0) (g L c : Nat) (q : List Nat) (hx : a.eval x = .slice (some ⟨g, 0, none⟩) L c) (hacc : Acc w g L q 0) (hL : L ≤ 5) (h0 : 0 < L)
  (h : ∀ g' cap w', L ≤ cap → Acc w' g' L q 0 → g' < w'.heap.size → w.heap.size ≤ g' → Below w.heap.size w w' → wpList P ops Q rest (a.put o.dst (.slice (some ⟨g', 0, none⟩) L cap)) w') : wpList P ops Q (o :: rest) a w := by
 obtain ⟨i, z, ht, hi, hz, hsz, hby, hzs, h1⟩ := H
 have hq : q.length = L := by have := hacc.1; omega
 refine wpList_append_lies w hgd s x t ho w.heap.size e i z 1 8 ht hi hz hsz hby hzs h1 (.slice none 0 0) 0 [] hs (World.ownsRow_nil _ _ _ _) ⟨g, 0, none⟩ L c (q.map fun n : Nat => Value.int .i64 n) hx (by simp [hq]) (fun j u hu => ?_) (fun u hu => ?_) h0 (by unfold maxLen; omega) (by omega) (Nat.le_refl _) _ rfl (fun g' cap w' a1 a2 a3 a4 => ?_)
 ·rw [List.getElem?_map] at hu
  cases hj : q[j]? with
  | none => rw [hj] at hu; cases hu
  | some n =>
   rw [hj] at hu
   obtain rfl := Option.some.inj hu
   have := (hacc.2 j n hj).1
   rw [Nat.zero_add] at this
   rw [← this, show (⟨g, 0, none⟩ : Addr).add j = ⟨g, j, none⟩ from by unfold Addr.add; split <;> simp_all]
 ·obtain ⟨n, -, rfl⟩ := List.mem_map.1 hu
  rfl
 ·rw [Nat.zero_add] at a1 ⊢
  rw [List.nil_append] at a1
  obtain ⟨hgl, hgs⟩ := a1.lt g' rfl
  have hcap : L ≤ cap := by
   obtain ⟨-, h2⟩ := a1
   rcases h2 with h2 | ⟨g2, cap2, cur, e2, _, _, h3, _⟩
   ·cases h2.1
   ·simp only [Value.slice.injEq, true_and] at e2
    obtain ⟨-, rfl⟩ := e2
    exact h3
  refine h g' cap w' hcap ⟨by omega, fun j n hj => ⟨?_, (hacc.2 j n hj).2⟩⟩ hgs hgl ((Below.refl _ _).grown a2 (Nat.le_refl _) (fun k hk => by simp [Value.ownBlock] at hk))
  ·rw [Nat.zero_add]
   exact own_cell a1 (by rw [List.getElem?_map, hj]; rfl)
theorem relocatedX_any (w : World) (n1 cap1 g1 t1 n2 cap2 g2 t2 ab L acap : Nat) (q : List Nat) (xs1 xs2 : List Value) (D1 D2 : Nat → Prop) (f1 f2 : Nat → RowD) (k k' a b : Int) (p ok big : Bool)
  (ho1 : w.ownsRow 0 72 8 (.slice (some ⟨g1, 0, none⟩) n1 cap1) n1 xs1) (hn1 : n1 ≤ 1000000) (hf1 : ∀ i, i < n1 → FitsD w D1 xs1 n1 i (f1 i)) (ht1 : t1 < n1)
  (ho2 : w.ownsRow 0 72 8 (.slice (some ⟨g2, 0, none⟩) n2 cap2) n2 xs2) (hn2 : n2 ≤ 1000000) (hf2 : ∀ i, i < n2 → FitsD w D2 xs2 n2 i (f2 i)) (ht2 : t2 < n2)
  (hacc : Acc w ab L q 0) (hab : ab < w.heap.size) (hL : L ≤ 5) (hL0 : 0 < L) (hk0 : 0 ≤ k) (hk1 : k ≤ 12)
  (hcalc : ∀ W og1 pt1 ob1 og2 pt2 ob2 ab' acap idn rs, Below w.heap.size w W → Outs W n1 f1 og1 pt1 ob1 → Outs W n2 f2 og2 pt2 ob2 → Acc W ab' L q 0 → ab' < W.heap.size → L ≤ acap →
   CalcX W (objAt pt1 ob1 t1) (.slice (some ⟨ab', 0, none⟩) L acap) k (.int .u32 idn) (objAt pt2 ob2 t2) rs big k' a b p ok) :
  Calls Tryz.prog 16 #[.slice (some ⟨g1, 0, none⟩) n1 cap1, .int .i64 ((t1 : Int) + 1), .slice (some ⟨g2, 0, none⟩) n2 cap2, .int .i64 ((t2 : Int) + 1), .slice (some ⟨ab, 0, none⟩) L acap, .int .i64 k, .bool big] w
   fun e w' => e = .returned (.tuple #[.int .u64 a, .int .u64 b, .bool p, .bool ok]) ∧ Below w.heap.size w w' := by
 have hts : (t1 : Int) ≤ 1000000 := by omega
 have hts2 : (t2 : Int) ≤ 1000000 := by omega
 have hLi : ((L : Int) == 0) = false := by rw [beq_eq_false_iff_ne]; omega
 have HC := Lib.hid hcalc
 have HF1 := Lib.hid hf1
 have HF2 := Lib.hid hf2
 have HO1 := Lib.hid ho1
 have HO2 := Lib.hid ho2
 have HA := Lib.hid hacc
 clear hcalc hf1 hf2 ho1 ho2 hacc
 go_enter Tryz.func16, Tryz.ntmps16
 go_wp2_with fail
 refine (one_any w n1 cap1 g1 t1 xs1 D1 f1 HO1.out hn1 HF1.out ht1).mono ?_
 rintro e w1 ⟨og1, pt1, ob1, rfl, o1, hb1⟩
 have O1 := Lib.hid o1
 clear o1
 go_wp2_with fail
 refine (one_any w1 n2 cap2 g2 t2 xs2 D2 f2 (ownsRow_of HO2.out fun x _ hl => hb1.block x hl) hn2 (fun i hi => (HF2.out i hi).kept hb1) ht2).mono ?_
 rintro e w2 ⟨og2, pt2, ob2, rfl, o2, hb2⟩
 have O2 := Lib.hid o2
 clear o2
 have hb12 : Below w.heap.size w w2 := hb1.trans (hb2.mono hb1.size)
 have hal := hb12.alloc hb12.size (.cells #[.slice (some ⟨og2, 0, none⟩) n2 n2] 78)
 have hA3 : Acc (w2.alloc (.cells #[.slice (some ⟨og2, 0, none⟩) n2 n2] 78)) ab L q 0 := ⟨HA.out.1, fun j x hj => ⟨(hal.cell (p := ⟨ab, 0 + j, none⟩) hab).trans (HA.out.2 j x hj).1, (HA.out.2 j x hj).2⟩⟩
 have Hal := Lib.hid hal
 have hkb : k < 4294967296 := by omega
 clear hal
 go_wp2_with fail
 refine (is32_any k _ hk0 (by omega)).mono ?_
 rintro e w9 ⟨rfl, rfl⟩
 go_wp2_with (at_builtin; refine wpList_accApp intParts (.const (.slice none 0 0)) (.tmp 67) rfl rfl rfl ab L acap q rfl hA3 hL hL0 ?_; intro g cap w4 hcap4 hacc4 hg4 hgl4 ha)
 have hb4 : Below w.heap.size w w4 := Hal.out.trans (ha.mono Hal.out.size)
 have hb24 : Below w2.heap.size w2 w4 := ((Below.refl _ _).alloc (Nat.le_refl _) _).trans (ha.mono (by simp))
 have o1 := (O1.out.ck (CellsKept.below hb2)).ck (CellsKept.below hb24)
 have o2 := O2.out.ck (CellsKept.below hb24)
 refine (zzFixupX_any w4 _ _ _ _ _ _ _ k _ k' a b p ok big (HC.out w4 og1 pt1 ob1 og2 pt2 ob2 g cap _ _ hb4 o1 o2 hacc4 hg4 hcap4)).mono ?_
 rintro e w5 ⟨⟨s, ev, rfl, hev⟩, hb5⟩
 have hb6 := hb4.trans (hb5.mono hb4.size)
 have Hb6 := Lib.hid hb6
 clear o1 o2 hacc4 ha hb5 hb4 hb24 hb6 hA3 hcap4 hg4 hgl4
 cases ok with
 | true =>
  obtain rfl : ev = .nilIface := hev
  go_wp2_with fail
  go_quiet (fail)
  go_wp2_with fail
  refine bodyPost_ret (results_tmp4 rfl _ _ _) rfl ?_
  exact ⟨rfl, below_drewN Hb6.out _⟩
 | false =>
  obtain ⟨eb, rfl⟩ : ∃ eb, ev = .iface 228 (.pointer (some eb)) := hev
  go_wp2_with fail
  go_quiet (fail)
  go_wp2_with fail
  refine bodyPost_ret (results_tmp4 rfl _ _ _) rfl ?_
  exact ⟨rfl, below_drewN Hb6.out _⟩
def sgn (t : Ty) : Int := match t.behind with
 | .int _ sg _ => if sg then 1 else 0
 | .enm _ sg _ _ _ => if sg then 1 else 0
 | _ => 0
def wid (s : FS) : Nat := if 0 < s.bb then s.bb else 8 * s.b.bytes
def hereV (s : FS) : Nat → Int
 | 0 => (s.ao : Nat)
 | 1 => (s.a.bytes : Nat)
 | 2 => 1
 | 3 => sgn s.a
 | _ => 0
def thereV (s : FS) (big : Bool) : Nat → Int
 | 0 => (s.bo : Nat)
 | 1 => (s.b.bytes : Nat)
 | 2 => 1
 | 3 => sgn s.b
 | 4 => if big then 64 - 8 * (s.b.bytes : Int) + (s.bf : Int) else 64 - (s.bf : Int) - (wid s : Int)
 | _ => 64 - (wid s : Int)
structure FndOk (s : FS) : Prop where
 oka : FOk s.a
 okb : FOk s.b
 same : isC s.a = true ∨ cmpF s.a s.b = true
 b0 : s.bb = 0 → s.bf = 0
 b1 : s.bb ≠ 0 → s.bf + s.bb ≤ 64 ∧ s.b.bytes ≤ 8
theorem load_from {y : Ty} {a b : Nat} (hy : FOk y) (h : Pt y a b) (h0 : Go.Proofs.YtfilbgmbmlmdbaaGreatDoor.al y ≠ 0) : (b = 0 → a - 8 * load y a = 0) ∧ (b ≠ 0 → a - 8 * load y a + b ≤ 64 ∧ y.bytes ≤ 8) := by
 obtain ⟨h1, h2, h3⟩ := h
 unfold load
 refine ⟨fun hb => ?_, fun hb => ?_⟩
 ·have := h2 hb
  rcases hy.al with e | e | e | e | e <;> rw [e] at this h0 ⊢
  ·exact absurd rfl h0
  all_goals simp only [show max 1 1 = 1 from rfl, show max 1 2 = 2 from rfl, show max 1 4 = 4 from rfl, show max 1 8 = 8 from rfl] at this
  all_goals omega
 ·obtain ⟨sz, sg, nm, rfl, h4, h5⟩ := h3 hb
  simp only [Go.Proofs.YtfilbgmbmlmdbaaGreatDoor.al, Ty.bytes] at h0 ⊢
  rcases hy.al with e | e | e | e | e <;> simp only [Go.Proofs.YtfilbgmbmlmdbaaGreatDoor.al] at e <;> subst e
  ·exact absurd rfl h0
  all_goals omega
theorem stepF_ok {s s1 : FS} {i : Nat} {l : Bool} (ha : FOk s.a) (hb : FOk s.b) (e : stepF s i l = (s1, none)) (h0 : s.bb = 0) (h1 : s.bf = 0) : FndOk s1 ∧ ((s1.bb = 0 ∧ s1.bf = 0) ∨ l = true) := by
 obtain ⟨a, ao, ab, af, b, bo, bb, bf⟩ := s
 simp only at ha hb h0 h1
 subst h0 h1
 unfold stepF at e
 simp only at e
 cases a with
 | comp un nm sz n pn py pa pb =>
  simp only at e
  obtain ⟨-, -, hp, hy, hn⟩ := ha.parts
  by_cases hi : n ≤ i
  ·rw [if_pos hi] at e; cases e
  ·rw [if_neg hi] at e
   by_cases hz : (pn i).size = 0
   ·rw [if_pos hz] at e
    obtain ⟨-, -, un', nm', sz', n', pn', py', pa', pb', e', -⟩ := hn i (by omega) hz
    simp only [Prod.mk.injEq, and_true] at e
    subst e
    exact ⟨⟨hy i (by omega), hb, .inl (by show isC (py i) = true; rw [e']; exact isC_comp), fun _ => rfl, fun h => absurd rfl h⟩, .inl ⟨rfl, rfl⟩⟩
   ·rw [if_neg hz] at e
    cases b with
    | comp un2 nm2 sz2 n2 pn2 py2 pa2 pb2 =>
     simp only at e
     cases hf : findP (pn i) (.comp un2 nm2 sz2 n2 pn2 py2 pa2 pb2) with
     | none => rw [hf] at e; cases e
     | some h =>
      rw [hf] at e
      simp only at e
      obtain ⟨ok2, pt2, -⟩ := findP_ok hb hf
      by_cases hbits : pb i = 0 ∧ h.bits = 0
      ·rw [if_pos hbits] at e
       cases hc : cmpF (py i) h.y with
       | false => rw [hc] at e; cases e
       | true =>
        rw [hc] at e
        simp only [if_true, Prod.mk.injEq, and_true] at e
        subst e
        exact ⟨⟨hy i (by omega), ok2, .inr hc, fun _ => rfl, fun h => absurd rfl h⟩, .inl ⟨rfl, rfl⟩⟩
      ·rw [if_neg hbits] at e
       cases l with
       | false => rw [if_pos rfl] at e; cases e
       | true =>
        rw [if_neg (by decide)] at e
        by_cases hal : Go.Proofs.YtfilbgmbmlmdbaaGreatDoor.al (py i) = 0 ∨ Go.Proofs.YtfilbgmbmlmdbaaGreatDoor.al h.y = 0
        ·rw [if_pos hal] at e; cases e
        ·rw [if_neg hal] at e
         cases hc : cmpF (py i) h.y with
         | false => rw [hc] at e; cases e
         | true =>
          rw [hc] at e
          simp only [if_true, Prod.mk.injEq, and_true] at e
          subst e
          have hl := load_from ok2 pt2 (fun x => hal (.inr x))
          exact ⟨⟨hy i (by omega), ok2, .inr hc, hl.1, hl.2⟩, .inr rfl⟩
    | _ => cases e
 | arr m u =>
  cases b with
  | arr m' u' =>
   simp only at e
   by_cases hi : m ≤ i
   ·rw [if_pos hi] at e; cases e
   ·rw [if_neg hi] at e
    by_cases hi2 : m' ≤ i
    ·rw [if_pos hi2] at e; cases e
    ·rw [if_neg hi2] at e
     cases hc : cmpF u u' with
     | false => rw [hc] at e; cases e
     | true =>
      rw [hc] at e
      simp only [if_true, Prod.mk.injEq, and_true] at e
      subst e
      exact ⟨⟨.leaf (.int ha.arr.1), .leaf (.int hb.arr.1), .inr hc, fun _ => rfl, fun h => absurd rfl h⟩, .inl ⟨rfl, rfl⟩⟩
  | _ => cases e
 | _ => cases e
theorem stepF_bnd {s s1 : FS} {i : Nat} {l : Bool} (ha : FOk s.a) (hb : FOk s.b) (h255 : i ≤ 255) (e : stepF s i l = (s1, none)) : s1.ao ≤ s.ao + 100000 ∧ s1.bo ≤ s.bo + 100000 := by
 obtain ⟨a, ao, ab, af, b, bo, bb, bf⟩ := s
 simp only at ha hb
 unfold stepF at e
 simp only at e
 cases a with
 | comp un nm sz n pn py pa pb =>
  simp only at e
  obtain ⟨-, -, hp, -, -⟩ := ha.parts
  by_cases hi : n ≤ i
  ·rw [if_pos hi] at e; cases e
  ·have h1 := (hp i (by omega)).1
   rw [if_neg hi] at e
   by_cases hz : (pn i).size = 0
   ·rw [if_pos hz] at e
    simp only [Prod.mk.injEq, and_true] at e
    subst e
    exact ⟨by show ao + pa i / 8 ≤ ao + 100000; omega, by show bo ≤ bo + 100000; omega⟩
   ·rw [if_neg hz] at e
    cases b with
    | comp un2 nm2 sz2 n2 pn2 py2 pa2 pb2 =>
     simp only at e
     cases hf : findP (pn i) (.comp un2 nm2 sz2 n2 pn2 py2 pa2 pb2) with
     | none => rw [hf] at e; cases e
     | some h =>
      rw [hf] at e
      simp only at e
      obtain ⟨-, -, h2⟩ := findP_ok hb hf
      by_cases hbits : pb i = 0 ∧ h.bits = 0
      ·rw [if_pos hbits] at e
       cases hc : cmpF (py i) h.y with
       | false => rw [hc] at e; cases e
       | true =>
        rw [hc] at e
        simp only [if_true, Prod.mk.injEq, and_true] at e
        subst e
        exact ⟨by show ao + pa i / 8 ≤ ao + 100000; omega, by show bo + h.at_ / 8 ≤ bo + 100000; omega⟩
      ·rw [if_neg hbits] at e
       cases l with
       | false => rw [if_pos rfl] at e; cases e
       | true =>
        rw [if_neg (by decide)] at e
        by_cases hal : Go.Proofs.YtfilbgmbmlmdbaaGreatDoor.al (py i) = 0 ∨ Go.Proofs.YtfilbgmbmlmdbaaGreatDoor.al h.y = 0
        ·rw [if_pos hal] at e; cases e
        ·rw [if_neg hal] at e
         cases hc : cmpF (py i) h.y with
         | false => rw [hc] at e; cases e
         | true =>
          rw [hc] at e
          simp only [if_true, Prod.mk.injEq, and_true] at e
          subst e
          have h3 := load_le (py i) (pa i)
          have h4 := load_le h.y h.at_
          exact ⟨by show ao + load (py i) (pa i) ≤ ao + 100000; omega, by show bo + load h.y h.at_ ≤ bo + 100000; omega⟩
    | _ => cases e
 | arr m u =>
  cases b with
  | arr m' u' =>
   simp only at e
   have h1 : i * u.bytes ≤ 255 * 8 := Nat.mul_le_mul h255 ha.arr.1.flat.2.1
   have h2 : i * u'.bytes ≤ 255 * 8 := Nat.mul_le_mul h255 hb.arr.1.flat.2.1
   by_cases hi : m ≤ i
   ·rw [if_pos hi] at e; cases e
   ·rw [if_neg hi] at e
    by_cases hi2 : m' ≤ i
    ·rw [if_pos hi2] at e; cases e
    ·rw [if_neg hi2] at e
     cases hc : cmpF u u' with
     | false => rw [hc] at e; cases e
     | true =>
      rw [hc] at e
      simp only [if_true, Prod.mk.injEq, and_true] at e
      subst e
      exact ⟨by show ao + i * u.bytes ≤ ao + 100000; omega, by show bo + i * u'.bytes ≤ bo + 100000; omega⟩
  | _ => cases e
 | _ => cases e
theorem stepF_not {s s1 : FS} {i : Nat} {l : Bool} : stepF s i l ≠ (s1, some .found) := by
 intro e
 obtain ⟨a, ao, ab, af, b, bo, bb, bf⟩ := s
 unfold stepF at e
 simp only at e
 repeat' split at e
 all_goals first | cases e | (simp only [Prod.mk.injEq] at e; obtain ⟨-, e⟩ := e; split at e <;> cases e)
theorem fieldGo_ok : ∀ (p : List Nat) (s s' : FS), FndOk s → s.bb = 0 → s.bf = 0 → fieldGo p s = (s', .found) → FndOk s' := by
 intro p
 induction p with
 | nil => intro s s' h _ _ e; unfold fieldGo at e; simp only [Prod.mk.injEq, and_true] at e; exact e ▸ h
 | cons i rest ih =>
  intro s s' h h0 h1 e
  cases hs : stepF s i rest.isEmpty with
  | mk s1 o =>
   cases o with
   | some o =>
    rw [fieldGo_stop hs] at e
    simp only [Prod.mk.injEq] at e
    obtain ⟨rfl, rfl⟩ := e
    exact absurd hs stepF_not
   | none =>
    rw [fieldGo_on hs] at e
    obtain ⟨hok, hb⟩ := stepF_ok h.oka h.okb hs h0 h1
    rcases hb with ⟨hb0, hb1⟩ | hl
    ·exact ih s1 s' hok hb0 hb1 e
    ·rw [List.isEmpty_iff.1 hl] at e
     unfold fieldGo at e
     simp only [Prod.mk.injEq, and_true] at e
     exact e ▸ hok
theorem fieldGo_bnd : ∀ (p : List Nat) (s s' : FS), FndOk s → s.bb = 0 → s.bf = 0 → (∀ x ∈ p, x ≤ 255) → fieldGo p s = (s', .found) → s'.ao ≤ s.ao + p.length * 100000 ∧ s'.bo ≤ s.bo + p.length * 100000 := by
 intro p
 induction p with
 | nil => intro s s' h _ _ _ e; unfold fieldGo at e; simp only [Prod.mk.injEq, and_true] at e; subst e; exact ⟨by omega, by omega⟩
 | cons i rest ih =>
  intro s s' h h0 h1 hx e
  cases hs : stepF s i rest.isEmpty with
  | mk s1 o =>
   cases o with
   | some o =>
    rw [fieldGo_stop hs] at e
    simp only [Prod.mk.injEq] at e
    obtain ⟨rfl, rfl⟩ := e
    exact absurd hs stepF_not
   | none =>
    rw [fieldGo_on hs] at e
    have hb := stepF_bnd h.oka h.okb (hx i (List.mem_cons_self ..)) hs
    obtain ⟨hok, hbb⟩ := stepF_ok h.oka h.okb hs h0 h1
    rw [List.length_cons]
    rcases hbb with ⟨hb0, hb1⟩ | hl
    ·have := ih s1 s' hok hb0 hb1 (fun x hm => hx x (List.mem_cons_of_mem _ hm)) e
     omega
    ·rw [List.isEmpty_iff.1 hl] at e
     unfold fieldGo at e
     simp only [Prod.mk.injEq, and_true] at e
     subst e
     omega
theorem fieldGo_from {t u : Ty} {x y : Nat} {p : List Nat} {s' : FS} (ok1 : FOk t) (ok2 : FOk u) (hc : isC t = true) (e : fieldGo p ⟨t, x, 0, 0, u, y, 0, 0⟩ = (s', .found)) : FndOk s' :=
 fieldGo_ok p _ _ ⟨ok1, ok2, .inl hc, fun _ => rfl, fun h => absurd rfl h⟩ rfl rfl e
theorem cmp_int {a b : Ty} {sz : Nat} {sg : Bool} {nm : ByteArray} (h : isC a = true ∨ cmpF a b = true) (e : a.behind = .int sz sg nm) : ∃ sz' sg' nm', b.behind = .int sz' sg' nm' := by
 rcases h with h | h
 ·cases a with
  | comp => cases e
  | _ => cases h
 ·unfold cmpF at h
  rw [e] at h
  cases hb : b.behind with
  | int a1 a2 a3 => exact ⟨a1, a2, a3, rfl⟩
  | _ => rw [hb] at h; cases h
theorem cmp_enm {a b : Ty} {nm : ByteArray} {sg : Bool} {n : Nat} {vn : Nat → ByteArray} {vv : Nat → Int} (h : isC a = true ∨ cmpF a b = true) (e : a.behind = .enm nm sg n vn vv) : ∃ nm' sg' n' vn' vv', b.behind = .enm nm' sg' n' vn' vv' := by
 rcases h with h | h
 ·cases a with
  | comp => cases e
  | _ => cases h
 ·unfold cmpF at h
  rw [e] at h
  cases hb : b.behind with
  | enm a1 a2 a3 a4 a5 => exact ⟨a1, a2, a3, a4, a5, rfl⟩
  | _ => rw [hb] at h; cases h
structure Shf (s : FS) : Prop where
 w64 : s.bf + wid s ≤ 64
 z64 : 8 * s.b.bytes ≤ 64
theorem FndOk.shf {s : FS} (h : FndOk s) (hg : s.bb = 0 → s.b.bytes ≤ 8) : Shf s := by
 rcases Nat.eq_zero_or_pos s.bb with h0 | h0
 ·have h1 := h.b0 h0
  have h2 := hg h0
  exact ⟨by unfold wid; rw [if_neg (by omega)]; omega, by omega⟩
 ·have h1 := h.b1 (by omega)
  exact ⟨by unfold wid; rw [if_pos h0]; omega, by omega⟩
def fxK (R : FS × Out) (k : Nat) : Int := match R.2 with
 | .wrong => 0
 | _ => (k : Int)
def fxA (R : FS × Out) (k : Nat) : Int := match R.2 with
 | .wrong => 0
 | .poison => if k = 2 then 1 else 0
 | .found => hereV R.1 k
def fxB (R : FS × Out) (k : Nat) (big : Bool) : Int := match R.2 with
 | .found => thereV R.1 big k
 | _ => 0
def fxP (R : FS × Out) (k : Nat) : Bool := match R.2 with
 | .poison => k != 2
 | _ => false
def fxO (R : FS × Out) : Bool := match R.2 with
 | .wrong => false
 | _ => true
section
variable {c0 c2 c3 c4 c5 c11 c12 c13 c38 c39 c40 c41 c42 c43 c44 c45 c46 c47 c48 c49 c50 c51 c52 c53 c54 c55 c56 c57 c58 c59 c60 c61 c62 c63 c64 c65 c66 c67 c68 c69 c70 c325 c326 u8 u16 u17 u18 u19 u20 u21 u22 u23 u24 u25 u26 u27 u28 u29 u30 u31 u32 u33 u34 u35 u36 u37 u74 u75 u76 u77 u78 u79 u80 u81 u82 u83 u84 u85 u86 u87 u88 u89 u90 u91 u92 u93 u94 u95 u96 u97 u98 u99 u100 u101 u102 u103 u104 u105 u106 u107 u108 u109 u110 u111 u112 u113 u114 u115 u116 u117 u118 u119 u120 u121 u122 u123 u124 u125 u126 u127 u128 u129 u130 u131 u132 u133 u134 u135 u136 u137 u138 u139 u140 u141 u142 u143 u144 u145 u146 u147 u148 u149 u150 u151 u152 u153 u154 u155 u156 u157 u158 u159 u160 u161 u162 u163 u164 u165 u166 u167 u168 u169 u170 u171 u172 u173 u174 u175 u176 u177 u178 u179 u180 u181 u182 u183 u184 u185 u186 u187 u188 u189 u190 u191 u192 u193 u194 u195 u196 u197 u198 u199 u200 u201 u202 u203 u204 u205 u206 u207 u208 u209 u210 u211 u212 u213 u214 u215 u216 u217 u218 u219 u220 u221 u222 u223 u224 u225 u226 u227 u228 u229 u230 u231 u232 u233 u234 u235 u236 u237 u238 u239 u240 u241 u242 u243 u244 u245 u246 u247 u248 u249 u250 u251 u252 u253 u254 u255 u256 u257 u258 u259 u260 u261 u262 u263 u264 u265 u266 u267 u268 u269 u270 u271 u272 u273 u274 u275 u276 u277 u278 u279 u280 u281 u282 u283 u284 u285 u286 u287 u288 u289 u290 u291 u292 u293 u294 u295 u296 u297 u298 u299 u300 u301 u302 u303 u304 u305 u306 u307 u308 u309 u310 u311 u312 u313 u314 u315 u316 u317 u318 u319 u320 u321 u322 u323 u324 : Value}
theorem pkf_13 {T : Two} {W wr : World} {a5 : Addr} {v5 : Value} {g L cap z6 z7 ra rb plen ia ib k i gk : Nat} {rest : List Nat} {oa ob : Bool} {R : FS × Out} {J : Nat → Act → World → Prop} {K K6 : Act → World → Prop}
  {un : Bool} {nm : ByteArray} {sz n : Nat} {pn : Nat → ByteArray} {py : Nat → Ty} {xa xb : Nat → Nat} {tb : Ty} {ao ab af bo bbi bf : Nat} (hin : n ≤ i)
  (X : KCtx T W a5 v5 g L cap z6 z7 ra rb plen) (hqk : (i :: rest).length + k = plen) (hqg : (i :: rest).length ≤ gk) (HACC : Hid (Acc W g L (i :: rest) (k + 1))) (ST : Hid (KSt T W z6 z7 ra rb ia ib (60000000 + k * 100000) ⟨.comp un nm sz n pn py xa xb, ao, ab, af, tb, bo, bbi, bf⟩ wr)) (HRR : Hid (R = fieldGo (i :: rest) ⟨.comp un nm sz n pn py xa xb, ao, ab, af, tb, bo, bbi, bf⟩))
  (hJ : ∀ k' a' w', KInv T W g L cap z6 z7 ra rb plen R c0 c2 c3 c4 c5 c11 c12 c13 c38 c39 c40 c41 c42 c43 c44 c45 c46 c47 c48 c49 c50 c51 c52 c53 c54 c55 c56 c57 c58 c59 c60 c61 c62 c63 c64 c65 c66 c67 c68 c69 c70 c325 c326 k' a' w' → J k' a' w') (hK : ∀ a' w', Handed J gk a' w' → K a' w') :
  Code.wp Tryz.prog pkfBody (Exit.then K (Exit.inBlock 0 (Exit.then K6 (bodyPost Tryz.prog Tryz.f62 (KRes T W a5 R))))) ⟨#[c0, .slice (some ⟨g, 0, none⟩) L cap, c2, c3, c4, c5, .pointer (some ⟨z6, 0, none⟩), .pointer (some ⟨z7, 0, none⟩), u8, .pointer (some ⟨ra, 0, none⟩), .pointer (some ⟨rb, 0, none⟩), c11, c12, c13, .bool oa, .bool ob, u16, u17, u18, u19, u20, u21, u22, u23, u24, u25, u26, u27, u28, u29, u30, u31, u32, u33, u34, u35, u36, u37, c38, c39, c40, c41, c42, c43, c44, c45, c46, c47, c48, c49, c50, c51, c52, c53, c54, c55, c56, c57, c58, c59, c60, c61, c62, c63, c64, c65, c66, c67, c68, c69, c70, .slice (some ⟨g, 1, none⟩) (L - 1) (cap - 1), .int .i64 ((L - 1 : Nat) : Int), .int .i64 (k : Int), u74, u75, u76, u77, u78, u79, u80, u81, u82, u83, u84, u85, u86, u87, u88, u89, u90, u91, u92, u93, u94, u95, u96, u97, u98, u99, u100, u101, u102, u103, u104, u105, u106, u107, u108, u109, u110, u111, u112, u113, u114, u115, u116, u117, u118, u119, u120, u121, u122, u123, u124, u125, u126, u127, u128, u129, u130, u131, u132, u133, u134, u135, u136, u137, u138, u139, u140, u141, u142, u143, u144, u145, u146, u147, u148, u149, u150, u151, u152, u153, u154, u155, u156, u157, u158, u159, u160, u161, u162, u163, u164, u165, u166, u167, u168, u169, u170, u171, u172, u173, u174, u175, u176, u177, u178, u179, u180, u181, u182, u183, u184, u185, u186, u187, u188, u189, u190, u191, u192, u193, u194, u195, u196, u197, u198, u199, u200, u201, u202, u203, u204, u205, u206, u207, u208, u209, u210, u211, u212, u213, u214, u215, u216, u217, u218, u219, u220, u221, u222, u223, u224, u225, u226, u227, u228, u229, u230, u231, u232, u233, u234, u235, u236, u237, u238, u239, u240, u241, u242, u243, u244, u245, u246, u247, u248, u249, u250, u251, u252, u253, u254, u255, u256, u257, u258, u259, u260, u261, u262, u263, u264, u265, u266, u267, u268, u269, u270, u271, u272, u273, u274, u275, u276, u277, u278, u279, u280, u281, u282, u283, u284, u285, u286, u287, u288, u289, u290, u291, u292, u293, u294, u295, u296, u297, u298, u299, u300, u301, u302, u303, u304, u305, u306, u307, u308, u309, u310, u311, u312, u313, u314, u315, u316, u317, u318, u319, u320, u321, u322, u323, u324, c325, c326], []⟩ wr := by
 obtain ⟨hL, hg, hcap, hlen, hL2, DD, PK, S5, O5, LA⟩ := X
 have HD := Lib.hid DD
 have HPK := Lib.hid PK
 have HO5 := Lib.hid O5
 have HS5 := Lib.hid S5
 have HLA := Lib.hid LA
 clear PK O5 S5 LA
 obtain ⟨F6a, F6b, F7a, F7b⟩ := DD.far
 have hab := DD.dab
 have hab' := DD.dab.symm
 clear DD
 have hLp : (1 : Int) ≤ L := by omega
 have hcapp : (L : Int) ≤ cap := by omega
 have hc2 : (2 : Int) ≤ cap := by omega
 simp only [List.length_cons] at hqk hqg
 have hkL : (k : Int) < L - 1 := by omega
 have hkL' : ¬ ((L : Int) - 1 ≤ k) := by omega
 obtain ⟨hi0, hi1⟩ := HACC.out.2 0 i rfl
 have HACC1 := Lib.hid HACC.out.tail
 have hi2 := (ST.out.old.cell (p := ⟨g, k + 1 + 0, none⟩) hg).trans hi0
 rw [Nat.add_zero, Nat.add_comm] at hi2
 have gl := Nat.lt_of_lt_of_le hg ST.out.old.size
 clear hi0 HACC
 have H_hin := Lib.hid hin
 clear hin
 have TA : Hid (RT T.f1 ia (.comp un nm sz n pn py xa xb)) := Lib.hid ST.out.ta
 have TB : Hid (RT T.f2 ib tb) := Lib.hid ST.out.tb
 have PKw := HPK.out.ck (CellsKept.below ST.out.old)
 have hun := underlying_any wr T.n1 T.og1 ia T.f1 T.pt1 T.ob1 PKw.i.h1 ST.out.la PKw.i.p1
 rw [show und T.f1 ia = ia from if_neg (by have h : (T.f1 ia).k = (if un then 5 else 4) := (by rw [TA.out.kind]; cases un <;> rfl); rw [h]; cases un <;> decide)] at hun
 obtain ⟨hpt, u, ucap, pc, F, hmc, hmem⟩ := PKw.i.h1.compC PKw.r1 ST.out.la TA.out
 obtain ⟨z, -, hz, hca⟩ := PKw.i.h1.compA ST.out.la TA.out rfl
 rw [isC_comp] at hz hca
 obtain rfl := hz rfl
 obtain ⟨hsz, hn20, hpp, hyy, haa⟩ := ST.out.oka.parts
 have hmm := hmc.m
 have hcc := hmc.c
 have HMCN := Lib.hid (hmc.n wr (CellsKept.refl wr))
 have HMEM := Lib.hid hmem
 have HPP := Lib.hid hpp
 have HYY := Lib.hid hyy
 have HAA := Lib.hid haa
 have HUN := Lib.hid hun
 clear hpp hyy haa hsz hmc hmem PKw hpt hun
 obtain ⟨ea0, ea1, ea2, ea3⟩ := ST.out.ba.four
 obtain ⟨eb0, eb1, eb2, eb3⟩ := ST.out.bb.four
 have xal := ST.out.ba.lt
 have xbl := ST.out.bb.lt
 conv => arg 2; whnf
 go_wp2_with fail
 refine HUN.out.mono ?_
 rintro e w5 ⟨rfl, rfl⟩
 obtain ⟨wr, rfl⟩ : ∃ z : World, z = w5 := ⟨_, rfl⟩
 clear HUN
 go_wp2_with fail
 refine HMCN.out.mono ?_
 rintro e w5 ⟨rfl, rfl⟩
 obtain ⟨wr, rfl⟩ : ∃ z : World, z = w5 := ⟨_, rfl⟩
 clear HMCN hmm hcc hca
 have hin := H_hin.out
 have hinI : (n : Int) ≤ i := by omega
 have HRES : Hid (R = (⟨.comp un nm sz n pn py xa xb, ao, ab, af, tb, bo, bbi, bf⟩, .wrong)) := Lib.hid (HRR.out.trans (fieldGo_stop (by unfold stepF; simp only [if_pos hin])))
 clear hin
 have k60 := ST.out.b6.free 0
 have k61 := ST.out.b6.free 1
 have k62 := ST.out.b6.free 2
 have k63 := ST.out.b6.free 3
 have k70 := ST.out.b7.free 0
 have k71 := ST.out.b7.free 1
 have k72 := ST.out.b7.free 2
 have k73 := ST.out.b7.free 3
 have k6l := ST.out.b6.lt
 have k7l := ST.out.b7.lt
 obtain ⟨z60, z61, z62, z63⟩ := ST.out.b6.four
 obtain ⟨z70, z71, z72, z73⟩ := ST.out.b7.four
 have d67 := HD.out.d67
 have d76 := HD.out.d67.symm
 go_upto_region 23 with fail
 apply wp_meet0 (fun w' => Hid (KEnd W z6 z7 (cfC .nilIface 0 0 0) (cfC .nilIface 0 0 0) w' ∧ OtherErr a5 w' (.iface 228 (.pointer (some ⟨wr.heap.size, 0, none⟩)))))
 case h1 =>
  go_wp2_with fail
  refine (errNew_any _ _).mono ?_
  rintro e w8 ⟨rfl, hw8⟩
  have STE := ST.out.below (show Below wr.heap.size wr w8 by rw [hw8]; exact (Below.refl _ _).alloc (Nat.le_refl _) _) (Nat.le_refl _)
  have hlo : NewErr wr.heap.size w8 (.iface 228 (.pointer (some ⟨wr.heap.size, 0, none⟩))) := by rw [hw8]; exact NewErr.of _ _
  have HPE := Lib.hid (And.intro (STE.zeros HD.out) ((hlo.zeros k6l k7l).other (a := a5) (Nat.lt_of_lt_of_le HLA.out ST.out.old.size)))
  have HST := Lib.hid STE
  clear STE hlo hw8
  have k60 := HST.out.b6.free 0
  have k61 := HST.out.b6.free 1
  have k62 := HST.out.b6.free 2
  have k63 := HST.out.b6.free 3
  have k70 := HST.out.b7.free 0
  have k71 := HST.out.b7.free 1
  have k72 := HST.out.b7.free 2
  have k73 := HST.out.b7.free 3
  have k6l := HST.out.b6.lt
  have k7l := HST.out.b7.lt
  obtain ⟨z60, z61, z62, z63⟩ := HST.out.b6.four
  obtain ⟨z70, z71, z72, z73⟩ := HST.out.b7.four
  have d67 := HD.out.d67
  have d76 := HD.out.d67.symm
  go_wp2_with fail
  exact ⟨HPE, rfl⟩
 case h2 =>
  intro w4 PE
  clear k60 k61 k62 k63 k70 k71 k72 k73 k6l k7l z60 z61 z62 z63 z70 z71 z72 z73 d67 d76
  obtain ⟨y0, y1, y2, y3⟩ := PE.out.1.b6.four
  obtain ⟨x0, x1, x2, x3⟩ := PE.out.1.b7.four
  have yl := PE.out.1.b6.lt
  have xl := PE.out.1.b7.lt
  go_wp2_with fail
  refine bodyPost_ret (v := .tuple #[.agg (cfC .nilIface 0 0 0), .agg (cfC .nilIface 0 0 0), (.iface 228 (.pointer (some ⟨wr.heap.size, 0, none⟩)))]) ?_ rfl ⟨PE.out.1.old, by rw [HRES.out] <;> exact ⟨_, rfl, PE.out.2⟩⟩
  rw [results_cct rfl]
  go_simp
end
section
variable {c0 c2 c3 c4 c5 c11 c12 c13 c38 c39 c40 c41 c42 c43 c44 c45 c46 c47 c48 c49 c50 c51 c52 c53 c54 c55 c56 c57 c58 c59 c60 c61 c62 c63 c64 c65 c66 c67 c68 c69 c70 c325 c326 u8 u16 u17 u18 u19 u20 u21 u22 u23 u24 u25 u26 u27 u28 u29 u30 u31 u32 u33 u34 u35 u36 u37 u74 u75 u76 u77 u78 u79 u80 u81 u82 u83 u84 u85 u86 u87 u88 u89 u90 u91 u92 u93 u94 u95 u96 u97 u98 u99 u100 u101 u102 u103 u104 u105 u106 u107 u108 u109 u110 u111 u112 u113 u114 u115 u116 u117 u118 u119 u120 u121 u122 u123 u124 u125 u126 u127 u128 u129 u130 u131 u132 u133 u134 u135 u136 u137 u138 u139 u140 u141 u142 u143 u144 u145 u146 u147 u148 u149 u150 u151 u152 u153 u154 u155 u156 u157 u158 u159 u160 u161 u162 u163 u164 u165 u166 u167 u168 u169 u170 u171 u172 u173 u174 u175 u176 u177 u178 u179 u180 u181 u182 u183 u184 u185 u186 u187 u188 u189 u190 u191 u192 u193 u194 u195 u196 u197 u198 u199 u200 u201 u202 u203 u204 u205 u206 u207 u208 u209 u210 u211 u212 u213 u214 u215 u216 u217 u218 u219 u220 u221 u222 u223 u224 u225 u226 u227 u228 u229 u230 u231 u232 u233 u234 u235 u236 u237 u238 u239 u240 u241 u242 u243 u244 u245 u246 u247 u248 u249 u250 u251 u252 u253 u254 u255 u256 u257 u258 u259 u260 u261 u262 u263 u264 u265 u266 u267 u268 u269 u270 u271 u272 u273 u274 u275 u276 u277 u278 u279 u280 u281 u282 u283 u284 u285 u286 u287 u288 u289 u290 u291 u292 u293 u294 u295 u296 u297 u298 u299 u300 u301 u302 u303 u304 u305 u306 u307 u308 u309 u310 u311 u312 u313 u314 u315 u316 u317 u318 u319 u320 u321 u322 u323 u324 : Value}
theorem pkf_other {T : Two} {W wr : World} {a5 : Addr} {v5 : Value} {g L cap z6 z7 ra rb plen ia ib k i gk : Nat} {rest : List Nat} {oa ob : Bool} {R : FS × Out} {J : Nat → Act → World → Prop} {K K6 : Act → World → Prop}
  {ta tb : Ty} {ao ab af bo bbi bf : Nat} (hnC : isC ta = false) (hnA : ∀ m u, ta ≠ .arr m u)
  (X : KCtx T W a5 v5 g L cap z6 z7 ra rb plen) (hqk : (i :: rest).length + k = plen) (hqg : (i :: rest).length ≤ gk) (HACC : Hid (Acc W g L (i :: rest) (k + 1))) (ST : Hid (KSt T W z6 z7 ra rb ia ib (60000000 + k * 100000) ⟨ta, ao, ab, af, tb, bo, bbi, bf⟩ wr)) (HRR : Hid (R = fieldGo (i :: rest) ⟨ta, ao, ab, af, tb, bo, bbi, bf⟩))
  (hJ : ∀ k' a' w', KInv T W g L cap z6 z7 ra rb plen R c0 c2 c3 c4 c5 c11 c12 c13 c38 c39 c40 c41 c42 c43 c44 c45 c46 c47 c48 c49 c50 c51 c52 c53 c54 c55 c56 c57 c58 c59 c60 c61 c62 c63 c64 c65 c66 c67 c68 c69 c70 c325 c326 k' a' w' → J k' a' w') (hK : ∀ a' w', Handed J gk a' w' → K a' w') :
  Code.wp Tryz.prog pkfBody (Exit.then K (Exit.inBlock 0 (Exit.then K6 (bodyPost Tryz.prog Tryz.f62 (KRes T W a5 R))))) ⟨#[c0, .slice (some ⟨g, 0, none⟩) L cap, c2, c3, c4, c5, .pointer (some ⟨z6, 0, none⟩), .pointer (some ⟨z7, 0, none⟩), u8, .pointer (some ⟨ra, 0, none⟩), .pointer (some ⟨rb, 0, none⟩), c11, c12, c13, .bool oa, .bool ob, u16, u17, u18, u19, u20, u21, u22, u23, u24, u25, u26, u27, u28, u29, u30, u31, u32, u33, u34, u35, u36, u37, c38, c39, c40, c41, c42, c43, c44, c45, c46, c47, c48, c49, c50, c51, c52, c53, c54, c55, c56, c57, c58, c59, c60, c61, c62, c63, c64, c65, c66, c67, c68, c69, c70, .slice (some ⟨g, 1, none⟩) (L - 1) (cap - 1), .int .i64 ((L - 1 : Nat) : Int), .int .i64 (k : Int), u74, u75, u76, u77, u78, u79, u80, u81, u82, u83, u84, u85, u86, u87, u88, u89, u90, u91, u92, u93, u94, u95, u96, u97, u98, u99, u100, u101, u102, u103, u104, u105, u106, u107, u108, u109, u110, u111, u112, u113, u114, u115, u116, u117, u118, u119, u120, u121, u122, u123, u124, u125, u126, u127, u128, u129, u130, u131, u132, u133, u134, u135, u136, u137, u138, u139, u140, u141, u142, u143, u144, u145, u146, u147, u148, u149, u150, u151, u152, u153, u154, u155, u156, u157, u158, u159, u160, u161, u162, u163, u164, u165, u166, u167, u168, u169, u170, u171, u172, u173, u174, u175, u176, u177, u178, u179, u180, u181, u182, u183, u184, u185, u186, u187, u188, u189, u190, u191, u192, u193, u194, u195, u196, u197, u198, u199, u200, u201, u202, u203, u204, u205, u206, u207, u208, u209, u210, u211, u212, u213, u214, u215, u216, u217, u218, u219, u220, u221, u222, u223, u224, u225, u226, u227, u228, u229, u230, u231, u232, u233, u234, u235, u236, u237, u238, u239, u240, u241, u242, u243, u244, u245, u246, u247, u248, u249, u250, u251, u252, u253, u254, u255, u256, u257, u258, u259, u260, u261, u262, u263, u264, u265, u266, u267, u268, u269, u270, u271, u272, u273, u274, u275, u276, u277, u278, u279, u280, u281, u282, u283, u284, u285, u286, u287, u288, u289, u290, u291, u292, u293, u294, u295, u296, u297, u298, u299, u300, u301, u302, u303, u304, u305, u306, u307, u308, u309, u310, u311, u312, u313, u314, u315, u316, u317, u318, u319, u320, u321, u322, u323, u324, c325, c326], []⟩ wr := by
 obtain ⟨hL, hg, hcap, hlen, hL2, DD, PK, S5, O5, LA⟩ := X
 have HD := Lib.hid DD
 have HPK := Lib.hid PK
 have HO5 := Lib.hid O5
 have HS5 := Lib.hid S5
 have HLA := Lib.hid LA
 clear PK O5 S5 LA
 obtain ⟨F6a, F6b, F7a, F7b⟩ := DD.far
 have hab := DD.dab
 have hab' := DD.dab.symm
 clear DD
 have hLp : (1 : Int) ≤ L := by omega
 have hcapp : (L : Int) ≤ cap := by omega
 have hc2 : (2 : Int) ≤ cap := by omega
 simp only [List.length_cons] at hqk hqg
 have hkL : (k : Int) < L - 1 := by omega
 have hkL' : ¬ ((L : Int) - 1 ≤ k) := by omega
 obtain ⟨hi0, hi1⟩ := HACC.out.2 0 i rfl
 have HACC1 := Lib.hid HACC.out.tail
 have hi2 := (ST.out.old.cell (p := ⟨g, k + 1 + 0, none⟩) hg).trans hi0
 rw [Nat.add_zero, Nat.add_comm] at hi2
 have gl := Nat.lt_of_lt_of_le hg ST.out.old.size
 clear hi0 HACC
 have TA : Hid (RT T.f1 ia ta) := Lib.hid ST.out.ta
 have TB : Hid (RT T.f2 ib tb) := Lib.hid ST.out.tb
 have PKw := HPK.out.ck (CellsKept.below ST.out.old)
 have hun := underlying_any wr T.n1 T.og1 ia T.f1 T.pt1 T.ob1 PKw.i.h1 ST.out.la PKw.i.p1
 obtain ⟨hui, hca, har⟩ := PKw.i.h1.other PKw.r1 ST.out.la ST.out.oka TA.out hnC hnA
 have HRES : Hid (R = (⟨ta, ao, ab, af, tb, bo, bbi, bf⟩, .wrong)) := Lib.hid (HRR.out.trans (fieldGo_stop (by
  cases ta with
  | comp un => rw [isC_comp] at hnC; cases hnC
  | arr m u => exact absurd rfl (hnA m u)
  | _ => rfl)))
 have HUN := Lib.hid hun
 clear PKw hun hnC hnA hui
 obtain ⟨ea0, ea1, ea2, ea3⟩ := ST.out.ba.four
 obtain ⟨eb0, eb1, eb2, eb3⟩ := ST.out.bb.four
 have xal := ST.out.ba.lt
 have xbl := ST.out.bb.lt
 conv => arg 2; whnf
 go_wp2_with fail
 refine HUN.out.mono ?_
 rintro e w5 ⟨rfl, rfl⟩
 obtain ⟨wr, rfl⟩ : ∃ z : World, z = w5 := ⟨_, rfl⟩
 clear HUN
 have k60 := ST.out.b6.free 0
 have k61 := ST.out.b6.free 1
 have k62 := ST.out.b6.free 2
 have k63 := ST.out.b6.free 3
 have k70 := ST.out.b7.free 0
 have k71 := ST.out.b7.free 1
 have k72 := ST.out.b7.free 2
 have k73 := ST.out.b7.free 3
 have k6l := ST.out.b6.lt
 have k7l := ST.out.b7.lt
 obtain ⟨z60, z61, z62, z63⟩ := ST.out.b6.four
 obtain ⟨z70, z71, z72, z73⟩ := ST.out.b7.four
 have d67 := HD.out.d67
 have d76 := HD.out.d67.symm
 have hgv := HS5.out
 have hgv := (ST.out.old.cell (p := ⟨6, 0, none⟩) (by exact World.block_lt_of_cell? W _ hgv)).trans hgv
 have hgl := World.block_lt_of_cell? _ _ hgv
 have f6g : ∀ (w : World) (i : Nat) (v : Value), (w.setCell ⟨z6, i, none⟩ v).cell? ⟨6, 0, none⟩ = w.cell? ⟨6, 0, none⟩ := fun _ _ _ => World.cell?_setCell_far _ _ _ _ (by have h1 := World.block_lt_of_cell? W _ HS5.out; have h2 := HD.out.l6; simp only at h1 ⊢; omega)
 have f7g : ∀ (w : World) (i : Nat) (v : Value), (w.setCell ⟨z7, i, none⟩ v).cell? ⟨6, 0, none⟩ = w.cell? ⟨6, 0, none⟩ := fun _ _ _ => World.cell?_setCell_far _ _ _ _ (by have h1 := World.block_lt_of_cell? W _ HS5.out; have h2 := HD.out.l7; simp only at h1 ⊢; omega)
 go_upto_region 18 with fail
 apply wp_meet0 (fun w' => Hid (KEnd W z6 z7 (cfC .nilIface 0 0 0) (cfC .nilIface 0 0 0) w'))
 case h1 =>
  refine AnyR.start (wr := [4, 3]) (rd := (fun cls => match cls with | 0 => [2] | 1 => [0, 1, 5] | _ + 2 => [])) (Sf := (fun cls w' => match cls with | 0 => w'.cell? ⟨6, 0, none⟩ = some (v5) | 1 => True | _ + 2 => True)) (by as_aux_lemma => kernel_rfl) (fun cls => match cls with | 0 => hgv | 1 => trivial | _ + 2 => trivial) (fun hHeld => ?_)
  refine AnyR.tk (i := 0) 1 (v := ?_) rfl (by as_aux_lemma => kernel_rfl) (fun _ _ _ h => h) hHeld (by rfl) ?_ ?_
  rotate_left
  focus (intro w h; clear h; go_simp <;> with_reducible rfl)
  clear hHeld
  intro hHeld
  try simp only [Act.put, zl1, zl2, zl3, zl4, zl5, zl6]
  refine AnyR.tk (i := 1) 1 (v := ?_) rfl (by as_aux_lemma => kernel_rfl) (fun _ _ _ h => h) hHeld (by rfl) ?_ ?_
  rotate_left
  focus (intro w h; clear h; go_simp <;> with_reducible rfl)
  clear hHeld
  intro hHeld
  try simp only [Act.put, zl1, zl2, zl3, zl4, zl5, zl6]
  refine AnyR.tk (i := 2) 0 (v := ?_) rfl (by as_aux_lemma => kernel_rfl) (fun _ _ _ h => h) hHeld (by rfl) ?_ ?_
  rotate_left
  focus (intro w hSw0; have hSw : (fun w' : World => w'.cell? ⟨6, 0, none⟩ = some (v5)) w := hSw0; clear hSw0; (try dsimp only at hSw); go_simp <;> with_reducible rfl)
  clear hHeld
  intro hHeld
  try simp only [Act.put, zl1, zl2, zl3, zl4, zl5, zl6]
  refine AnyR.one (i := 3) (by as_aux_lemma => kernel_rfl) rfl (fun K hK => ?_)
  go_simp
  refine hK.out _ _ (fun cls => match cls with | 0 => .inr (by simp only [World.cell?_drew, f6g, f7g, hgv]) | 1 => .inr trivial | _ + 2 => .inr trivial) (fun hHeld => ?_)
  clear hK K
  try simp only [Act.put, zl1, zl2, zl3, zl4, zl5, zl6]
  refine AnyR.one (i := 4) (by as_aux_lemma => kernel_rfl) rfl (fun K hK => ?_)
  go_simp
  refine hK.out _ _ (fun cls => match cls with | 0 => .inr (by simp only [World.cell?_drew, f6g, f7g, hgv]) | 1 => .inr trivial | _ + 2 => .inr trivial) (fun hHeld => ?_)
  clear hK K
  try simp only [Act.put, zl1, zl2, zl3, zl4, zl5, zl6]
  refine AnyR.tk (i := 5) 1 (v := ?_) rfl (by as_aux_lemma => kernel_rfl) (fun _ _ _ h => h) hHeld (by rfl) ?_ ?_
  rotate_left
  focus (intro w h; clear h; go_simp <;> with_reducible rfl)
  clear hHeld
  intro hHeld
  try simp only [Act.put, zl1, zl2, zl3, zl4, zl5, zl6]
  refine AnyR.end_ (by as_aux_lemma => kernel_rfl) ?_
  exact ⟨Lib.hid (KEnd.drew (ST.out.zeros HD.out)), rfl⟩
 case h2 =>
  intro w4 PE
  clear hgv hgl f6g f7g k60 k61 k62 k63 k70 k71 k72 k73 k6l k7l z60 z61 z62 z63 z70 z71 z72 z73 d67 d76
  obtain ⟨y0, y1, y2, y3⟩ := PE.out.b6.four
  obtain ⟨x0, x1, x2, x3⟩ := PE.out.b7.four
  have yl := PE.out.b6.lt
  have xl := PE.out.b7.lt
  go_wp2_with fail
  refine bodyPost_ret (v := .tuple #[.agg (cfC .nilIface 0 0 0), .agg (cfC .nilIface 0 0 0), (v5)]) ?_ rfl ⟨PE.out.old, by rw [HRES.out] <;> exact ⟨_, rfl, HO5.out.below PE.out.old⟩⟩
  rw [results_cct rfl]
  go_simp
end
end Go.Proofs.YtfilbgmbmlmdbaaGreatDoor
