/- Whether a type of the reference says no more than another one: the walks over ints, pointers and arrays; all of it. Nothing is claimed here. -/
import Derived.Test.YtfilbgmbmlmdbaaGreatDoorRelM
import Derived.Deep.DeepCutAuto
import Derived.Deep.CutBlock
namespace Go.Proofs.YtfilbgmbmlmdbaaGreatDoor
open Go.RowKit Go.MapKept

/-- Two names are the same, or one is nothing. -/
def ess (a b : ByteArray) : Bool := a.size == 0 || b.size == 0 || a == b
def allB (n : Nat) (p : Nat → Bool) : Bool := (List.range n).all p
def anyB (n : Nat) (p : Nat → Bool) : Bool := (List.range n).any p
theorem allB_succ (n : Nat) (p : Nat → Bool) : allB (n + 1) p = (allB n p && p n) := by simp [allB, List.range_succ, List.all_append]
theorem anyB_succ (n : Nat) (p : Nat → Bool) : anyB (n + 1) p = (anyB n p || p n) := by simp [anyB, List.range_succ, List.any_append]
theorem allB_zero (p : Nat → Bool) : allB 0 p = true := rfl
theorem anyB_zero (p : Nat → Bool) : anyB 0 p = false := rfl
theorem allB_iff (n : Nat) (p : Nat → Bool) : allB n p = true ↔ ∀ i, i < n → p i = true := by simp [allB]
theorem anyB_iff (n : Nat) (p : Nat → Bool) : anyB n p = true ↔ ∃ i, i < n ∧ p i = true := by simp [anyB]
theorem allB_false {n i : Nat} {p : Nat → Bool} (hi : i < n) (h : p i = false) : allB n p = false := by
  cases h' : allB n p with
  | false => rfl
  | true => rw [(allB_iff n p).1 h' i hi] at h; cases h
theorem allB_congr {n : Nat} {p q : Nat → Bool} (h : ∀ i, i < n → p i = q i) : allB n p = allB n q := by
  induction n with
  | zero => rfl
  | succ n ih => rw [allB_succ, allB_succ, ih fun i hi => h i (by omega), h n (by omega)]
theorem anyB_congr {n : Nat} {p q : Nat → Bool} (h : ∀ i, i < n → p i = q i) : anyB n p = anyB n q := by
  induction n with
  | zero => rfl
  | succ n ih => rw [anyB_succ, anyB_succ, ih fun i hi => h i (by omega), h n (by omega)]
/-- Whether one type says no more than another one. -/
def tm : Ty → Ty → Bool
  | .int sz sg nm, u => match u.behind with
    | .int sz' sg' nm' => ess nm nm' && (sz == sz' && sg == sg')
    | _ => false
  | .ptr t, u => match u.behind with
    | .ptr u' => tm t u'
    | _ => false
  | .arr n t, u => match u.behind with
    | .arr n' u' => n == n' && tm t u'
    | _ => false
  | .named _ t, u => tm t u
  | .cst t, u => tm t u
  | .enm nm _ n vn _, u => match u.behind with
    | .enm nm' _ n' vn' _ => ess nm nm' && (decide (n ≤ n') && allB n fun i => anyB n' fun j => vn i == vn' j && true)
    | _ => false
  | .comp un nm _ n pn py _ _, u => match u.behind with
    | .comp un' nm' _ n' pn' py' _ _ => (un == un') && (ess nm nm' && (decide (n ≤ n') && allB n fun i => anyB n' fun j => pn i == pn' j && tm (py i) (py' j)))
    | _ => false
theorem behind_idem (t : Ty) : t.behind.behind = t.behind := by
  induction t with
  | named nm t ih => exact ih
  | cst t ih => exact ih
  | _ => rfl
theorem tm_behind_left (t u : Ty) : tm t.behind u = tm t u := by
  induction t with
  | named nm t ih => exact ih
  | cst t ih => exact ih
  | _ => rfl
theorem tm_behind_right (t u : Ty) : tm t u.behind = tm t u := by
  induction t with
  | named nm t ih => exact ih
  | cst t ih => exact ih
  | _ => simp only [tm, behind_idem]
theorem behind_kinds (t : Ty) : t.behind.kind ≠ 8 ∧ t.behind.kind ≠ 10 := by
  induction t with
  | named nm t ih => exact ih
  | cst t ih => exact ih
  | comp un => cases un <;> (constructor <;> simp [Ty.behind, Ty.kind])
  | _ => constructor <;> simp [Ty.behind, Ty.kind]
theorem tm_kind {t u : Ty} (h : t.behind.kind ≠ u.behind.kind) : tm t u = false := by
  rw [← tm_behind_left, ← tm_behind_right]
  revert h
  have ht := behind_kinds t
  have hu := behind_kinds u
  generalize t.behind = a at ht ⊢
  generalize u.behind = b at hu ⊢
  intro h
  cases a with
  | named => exact absurd rfl ht.1
  | cst => exact absurd rfl ht.2
  | comp un =>
    cases b with
    | named => exact absurd rfl hu.1
    | cst => exact absurd rfl hu.2
    | comp un' =>
      have hn : (un == un') = false := by cases un <;> cases un' <;> first | rfl | exact absurd rfl h
      simp only [tm, Ty.behind, hn, Bool.false_and]
    | _ => rfl
  | _ =>
    cases b with
    | named => exact absurd rfl hu.1
    | cst => exact absurd rfl hu.2
    | _ => first | rfl | exact absurd rfl h
theorem name_full2 {b : ByteArray} (h : b.size ≠ 0) : b.toList.isEmpty = false := by
  have e : b.toList.length = b.size := by rw [ByteArray.toList_eq]; rfl
  cases hb : b.toList with
  | nil => rw [hb] at e; simp at e; omega
  | cons _ _ => rfl
theorem name_ne {a b : ByteArray} (h : a ≠ b) : (a.toList == b.toList) = false := by
  have hh : (a == b) = false := by
    cases h' : a == b with
    | false => rfl
    | true => exact absurd ((MapKept.bytes_beq _ _).1 h') h
  rwa [beq_toListBytes] at hh
theorem bytes_ne {a b : ByteArray} (h : a ≠ b) : (a == b) = false := by
  cases h' : a == b with
  | false => rfl
  | true => exact absurd ((MapKept.bytes_beq _ _).1 h') h
theorem bytes_same (a : ByteArray) : (a == a) = true := (MapKept.bytes_beq _ _).2 rfl
theorem ess_cases (a b : ByteArray) : (a.size = 0 ∧ ess a b = true) ∨ (a.size ≠ 0 ∧ b.size = 0 ∧ ess a b = true) ∨ (a.size ≠ 0 ∧ b.size ≠ 0 ∧ a = b ∧ ess a b = true) ∨ (a.size ≠ 0 ∧ b.size ≠ 0 ∧ a ≠ b ∧ ess a b = false) := by
  by_cases ha : a.size = 0
  · exact .inl ⟨ha, by simp [ess, ha]⟩
  · by_cases hb : b.size = 0
    · exact .inr (.inl ⟨ha, hb, by simp [ess, hb]⟩)
    · by_cases he : a = b
      · subst he
        exact .inr (.inr (.inl ⟨ha, hb, rfl, by simp [ess, bytes_same]⟩))
      · exact .inr (.inr (.inr ⟨ha, hb, he, by simp [ess, ha, hb, bytes_ne he]⟩))

set_option maxRecDepth 100000 in
set_option maxHeartbeats 2000000 in
theorem essential_spec (w : World) (a b : ByteArray) : Calls Tryz.prog 39 #[.string a, .string b] w fun e w' => e = .returned (.bool (ess a b)) ∧ w' = w := by
  rcases ess_cases a b with ⟨h1, he⟩ | ⟨h1, h2, he⟩ | ⟨h1, h2, h3, he⟩ | ⟨h1, h2, h3, he⟩
  all_goals
    rw [he]
    clear he
  · have x1 := name_nil h1
    clear h1
    go_enter Tryz.func39, Tryz.ntmps39
    go_wp2_with fail
    go_ret
    exact ⟨rfl, rfl⟩
  · have x1 := name_full2 h1
    have x2 := name_nil h2
    clear h1 h2
    go_enter Tryz.func39, Tryz.ntmps39
    go_wp2_with fail
    go_ret
    exact ⟨rfl, rfl⟩
  · subst h3
    have x1 := name_full2 h1
    clear h1 h2
    go_enter Tryz.func39, Tryz.ntmps39
    go_wp2_with fail
    go_ret
    exact ⟨rfl, rfl⟩
  · have x1 := name_full2 h1
    have x2 := name_full2 h2
    have x3 := name_ne h3
    clear h1 h2 h3
    go_enter Tryz.func39, Tryz.ntmps39
    go_wp2_with fail
    go_ret
    exact ⟨rfl, rfl⟩
end Go.Proofs.YtfilbgmbmlmdbaaGreatDoor

namespace Go.Proofs.YtfilbgmbmlmdbaaGreatDoor
open Go.RowKit Go.MapKept

set_option linter.unusedSimpArgs false in
set_option maxRecDepth 100000 in
set_option maxHeartbeats 8000000 in
theorem matches_parts {w : World} {b c b' c' : Nat} {K : Int} (hK : K = 4 ∨ K = 5 ∨ K = 6) {nm1 nm2 : ByteArray} {sz1 sz2 : Int} {g1 g2 : Bool} {n1 n2 : Nat} {v1 v2 : Value} {xs1 xs2 : List Value} {pn1 pn2 : Nat → ByteArray} {o1 o2 : Nat → Option Addr} {a1 a2 b1 b2 d1 d2 : Nat → Int}
    (hB1 : Calls Tryz.prog 13 #[.pointer (some ⟨b, 0, none⟩)] w fun e w' => e = .returned (.pointer (some ⟨b', 0, none⟩)) ∧ w' = w)
    (hB2 : Calls Tryz.prog 13 #[.pointer (some ⟨c, 0, none⟩)] w fun e w' => e = .returned (.pointer (some ⟨c', 0, none⟩)) ∧ w' = w)
    (k1 : Blk w b' #[.int .i64 K, .string nm1, .int .i64 sz1, .bool g1, .pointer none, v1] 38) (k2 : Blk w c' #[.int .i64 K, .string nm2, .int .i64 sz2, .bool g2, .pointer none, v2] 38)
    (w1 : w.ownsRow 0 56 5 v1 n1 xs1) (w2 : w.ownsRow 0 56 5 v2 n2 xs2) (r1 : ∀ i, i < n1 → PRow xs1 i (pn1 i) (.pointer (o1 i)) (a1 i) (b1 i) (d1 i)) (r2 : ∀ i, i < n2 → PRow xs2 i (pn2 i) (.pointer (o2 i)) (a2 i) (b2 i) (d2 i))
    (hsz : K = 6 → sz1 = sz2) (hn1 : n1 ≤ 1000) (hn2 : n2 ≤ 1000) (q : Nat → Nat → Bool) (hq6 : K = 6 → ∀ i j, q i j = true)
    (hq : K ≠ 6 → ∀ i j, i < n1 → j < n2 → ∀ W, Below w.heap.size w W → Calls Tryz.prog 21 #[.pointer (o1 i), .pointer (o2 j)] W fun e W' => e = .returned (.bool (q i j)) ∧ Below W.heap.size W W') :
    Calls Tryz.prog 21 #[.pointer (some ⟨b, 0, none⟩), .pointer (some ⟨c, 0, none⟩)] w fun e w' => e = .returned (.bool (ess nm1 nm2 && (decide (n1 ≤ n2) && allB n1 fun i => anyB n2 fun j => pn1 i == pn2 j && q i j))) ∧ Below w.heap.size w w' := by
  obtain ⟨x0, x1, x2, -, -, x5⟩ := k1.six
  obtain ⟨y0, y1, y2, -, -, y5⟩ := k2.six
  have lb := k1.lt
  have lc := k2.lt
  obtain ⟨p1, cap1, rfl⟩ := own_slice w1
  obtain ⟨p2, cap2, rfl⟩ := own_slice w2
  have HB1 := Lib.hid hB1
  have HB2 := Lib.hid hB2
  have HR1 := Lib.hid r1
  have HR2 := Lib.hid r2
  have HQ := Lib.hid hq
  have HQ6 := Lib.hid hq6
  have H1 := Lib.hid w1
  have H2 := Lib.hid w2
  have HSZ := Lib.hid hsz
  clear hB1 hB2 k1 k2 w1 w2 r1 r2 hq hq6 hsz
  have hK1 : (K == 1) = false := by simp; omega
  have hK2 : (K == 2) = false := by simp; omega
  have hK3 : (K == 3) = false := by simp; omega
  have HK := Lib.hid hK
  clear hK
  go_enter Tryz.func21, Tryz.ntmps21
  go_wp2_with fail
  refine HB1.out.mono ?_
  rintro e w9 ⟨rfl, rfl⟩
  go_wp2_with fail
  refine HB2.out.mono ?_
  rintro e w8 ⟨rfl, rfl⟩
  cases he : ess nm1 nm2 with
  | false =>
    go_wp2_with fail
    go_quiet ((go_at_call 39; exact Calls.quiet_of_same (essential_spec _ _ _)))
    go_wp2_with fail
    go_ret
    exact ⟨by rw [he]; rfl, below_drewN (Below.refl _ _) _⟩
  | true =>
    go_wp2_with fail
    go_quiet ((go_at_call 39; exact Calls.quiet_of_same (essential_spec _ _ _)))
    by_cases h6 : K = 6
    · obtain rfl : sz1 = sz2 := HSZ.out h6
      have hK6 : (K == 6) = true := by simpa using h6
      have HQ6' := Lib.hid (HQ6.out h6)
      clear HQ6 HQ HSZ h6
      go_wp2_with fail
      go_quiet (fail)
      by_cases hle : n1 ≤ n2
      · have hgt : ¬ (n2 : Int) < n1 := by omega
        have HLE := Lib.hid hle
        clear hle
        go_wp2_with fail
        obtain ⟨wA, rfl⟩ : ∃ wA : World, wA = w8 := ⟨_, rfl⟩
        go_loopg [128] n1 (fun gk s128 wr => ∃ i : Nat, i ≤ n1 ∧ n1 - i ≤ gk ∧ s128 = .int .i64 (i : Int) ∧ Hid (Below wA.heap.size wA wr) ∧ Hid (allB i (fun i => anyB n2 fun j => pn1 i == pn2 j && q i j) = true))
        case atStart => exact ⟨0, Nat.zero_le _, Nat.le_refl _, rfl, Lib.hid (below_drewN (Below.refl _ _) _), Lib.hid rfl⟩
        case round =>
          obtain ⟨i, hi, hgk, rfl, HB, HA⟩ := hrel
          by_cases hlt : i < n1
          · obtain ⟨g1', c1', e1, -⟩ := own_form H1.out (by omega)
            simp only [Value.slice.injEq] at e1
            obtain ⟨rfl, -, rfl⟩ := e1
            have H1w := CellsKept.own (CellsKept.below HB.out) H1.out
            obtain ⟨f0, f1, f2, f3, f4⟩ := row_cells H1w (HR1.out i hlt)
            have lg := (H1w.lt g1' rfl).2
            have y5w := (HB.out.cell (p := ⟨c', 5, none⟩) lc).trans y5
            have y0w := (HB.out.cell (p := ⟨b', 0, none⟩) lb).trans x0
            have lbw := Nat.lt_of_lt_of_le lb HB.out.size
            have lcw := Nat.lt_of_lt_of_le lc HB.out.size
            clear H1w
            go_wp2_with fail
            refine wp_world (fun W => Hid (Below wA.heap.size wA W) ∧ W.cell? ⟨wr.heap.size, 0, none⟩ = some (.string (pn1 i)) ∧ W.cell? ⟨wr.heap.size, 1, none⟩ = some (.pointer (o1 i)) ∧ wr.heap.size < W.heap.size) ⟨Lib.hid (HB.out.alloc HB.out.size _), (Blk.new _ _ _).cell 0, (Blk.new _ _ _).cell 1, by simp⟩ (fun W hW => ?_)
            obtain ⟨HBW, u0, u1, lu⟩ := hW
            obtain ⟨sb, hsb⟩ : ∃ sb : Nat, sb = wr.heap.size := ⟨_, rfl⟩
            rw [← hsb] at u0 u1 lu ⊢
            clear hsb f0 f1 f2 f3 f4 lg y5w y0w lbw lcw HB
            go_loopg [7, 137] n2 (fun gj s7 s137 wx => ∃ j : Nat, j ≤ n2 ∧ n2 - j ≤ gj ∧ s7 = .bool (anyB j fun j => pn1 i == pn2 j && q i j) ∧ s137 = .int .i64 (j : Int) ∧ Hid (Below W.heap.size W wx))
            case atStart => exact ⟨0, Nat.zero_le _, Nat.le_refl _, rfl, rfl, Lib.hid (Below.refl _ _)⟩
            case round =>
              obtain ⟨j, hj, hgj, rfl, rfl, HX⟩ := hrel
              have HXA : Hid (Below wA.heap.size wA wr) := Lib.hid (HBW.out.trans (HX.out.mono HBW.out.size))
              by_cases hlj : j < n2
              · obtain ⟨g2', c2', e2, -⟩ := own_form H2.out (by omega)
                simp only [Value.slice.injEq] at e2
                obtain ⟨rfl, -, rfl⟩ := e2
                have H2w := CellsKept.own (CellsKept.below HXA.out) H2.out
                obtain ⟨f0, f1, f2, f3, f4⟩ := row_cells H2w (HR2.out j hlj)
                have lg := (H2w.lt g2' rfl).2
                have x0w := (HXA.out.cell (p := ⟨b', 0, none⟩) lb).trans x0
                have lbw := Nat.lt_of_lt_of_le lb HXA.out.size
                have u0w := (HX.out.cell (p := ⟨sb, 0, none⟩) lu).trans u0
                have u1w := (HX.out.cell (p := ⟨sb, 1, none⟩) lu).trans u1
                have luw := Nat.lt_of_lt_of_le lu HX.out.size
                obtain ⟨B, hB⟩ : ∃ B, B = anyB j fun j => pn1 i == pn2 j && q i j := ⟨_, rfl⟩
                rw [← hB]
                have HBv := Lib.hid hB
                clear hB H2w
                cases B with
                | true =>
                  go_wp2_with fail
                  go_roundg (n2 - (j + 1))
                  case measure => omega
                  case rel => exact ⟨j + 1, hlj, Nat.le_refl _, by rw [anyB_succ, ← HBv.out]; rfl, by go_num, Lib.hid (HX.out.alloc HX.out.size _)⟩
                | false =>
                  by_cases hnm : pn1 i = pn2 j
                  · have Hnm := Lib.hid hnm
                    rw [← hnm] at f0
                    clear hnm
                    go_wp2_with fail
                    go_roundg (n2 - (j + 1))
                    case measure => omega
                    case rel => exact ⟨j + 1, hlj, Nat.le_refl _, by rw [anyB_succ, ← HBv.out, ← Hnm.out, bytes_same, HQ6'.out]; rfl, by go_num, Lib.hid (HX.out.alloc HX.out.size _)⟩
                  · have hne := name_ne hnm
                    have Hnm := Lib.hid hnm
                    clear hnm
                    go_wp2_with fail
                    go_roundg (n2 - (j + 1))
                    case measure => omega
                    case rel => exact ⟨j + 1, hlj, Nat.le_refl _, by rw [anyB_succ, ← HBv.out, bytes_ne Hnm.out]; rfl, by go_num, Lib.hid (HX.out.alloc HX.out.size _)⟩
              · obtain rfl : j = n2 := by omega
                obtain ⟨B, hB⟩ : ∃ B, B = anyB j fun j => pn1 i == pn2 j && q i j := ⟨_, rfl⟩
                rw [← hB]
                have HBv := Lib.hid hB
                clear hB
                cases B with
                | true =>
                  go_wp2_with fail
                  go_roundg (n1 - (i + 1))
                  case measure => omega
                  case rel => exact ⟨i + 1, hlt, Nat.le_refl _, by go_num, HXA, Lib.hid (by rw [allB_succ, HA.out, ← HBv.out]; rfl)⟩
                | false =>
                  go_wp2_with fail
                  go_ret
                  exact ⟨by rw [allB_false hlt HBv.out.symm, Bool.and_false, Bool.and_false]; rfl, HXA.out⟩
          · obtain rfl : i = n1 := by omega
            go_wp2_with fail
            go_ret
            exact ⟨by rw [he, HA.out, decide_eq_true HLE.out]; rfl, HB.out⟩
      · have hgt : (n2 : Int) < n1 := by omega
        have HLE := Lib.hid hle
        clear hle
        go_wp2_with fail
        go_ret
        exact ⟨by rw [decide_eq_false HLE.out, Bool.false_and, Bool.and_false]; rfl, below_drewN (below_drewN (Below.refl _ _) _) _⟩
    · have hK6 : (K == 6) = false := by simpa using h6
      have HQ' := Lib.hid (HQ.out h6)
      clear HQ6 HQ HSZ h6
      go_wp2_with fail
      go_quiet (fail)
      by_cases hle : n1 ≤ n2
      · have hgt : ¬ (n2 : Int) < n1 := by omega
        have HLE := Lib.hid hle
        clear hle
        go_wp2_with fail
        obtain ⟨wA, rfl⟩ : ∃ wA : World, wA = w8 := ⟨_, rfl⟩
        go_loopg [128] n1 (fun gk s128 wr => ∃ i : Nat, i ≤ n1 ∧ n1 - i ≤ gk ∧ s128 = .int .i64 (i : Int) ∧ Hid (Below wA.heap.size wA wr) ∧ Hid (allB i (fun i => anyB n2 fun j => pn1 i == pn2 j && q i j) = true))
        case atStart => exact ⟨0, Nat.zero_le _, Nat.le_refl _, rfl, Lib.hid (below_drewN (Below.refl _ _) _), Lib.hid rfl⟩
        case round =>
          obtain ⟨i, hi, hgk, rfl, HB, HA⟩ := hrel
          by_cases hlt : i < n1
          · obtain ⟨g1', c1', e1, -⟩ := own_form H1.out (by omega)
            simp only [Value.slice.injEq] at e1
            obtain ⟨rfl, -, rfl⟩ := e1
            have H1w := CellsKept.own (CellsKept.below HB.out) H1.out
            obtain ⟨f0, f1, f2, f3, f4⟩ := row_cells H1w (HR1.out i hlt)
            have lg := (H1w.lt g1' rfl).2
            have y5w := (HB.out.cell (p := ⟨c', 5, none⟩) lc).trans y5
            have y0w := (HB.out.cell (p := ⟨b', 0, none⟩) lb).trans x0
            have lbw := Nat.lt_of_lt_of_le lb HB.out.size
            have lcw := Nat.lt_of_lt_of_le lc HB.out.size
            clear H1w
            go_wp2_with fail
            refine wp_world (fun W => Hid (Below wA.heap.size wA W) ∧ W.cell? ⟨wr.heap.size, 0, none⟩ = some (.string (pn1 i)) ∧ W.cell? ⟨wr.heap.size, 1, none⟩ = some (.pointer (o1 i)) ∧ wr.heap.size < W.heap.size) ⟨Lib.hid (HB.out.alloc HB.out.size _), (Blk.new _ _ _).cell 0, (Blk.new _ _ _).cell 1, by simp⟩ (fun W hW => ?_)
            obtain ⟨HBW, u0, u1, lu⟩ := hW
            obtain ⟨sb, hsb⟩ : ∃ sb : Nat, sb = wr.heap.size := ⟨_, rfl⟩
            rw [← hsb] at u0 u1 lu ⊢
            clear hsb f0 f1 f2 f3 f4 lg y5w y0w lbw lcw HB
            go_loopg [7, 137] n2 (fun gj s7 s137 wx => ∃ j : Nat, j ≤ n2 ∧ n2 - j ≤ gj ∧ s7 = .bool (anyB j fun j => pn1 i == pn2 j && q i j) ∧ s137 = .int .i64 (j : Int) ∧ Hid (Below W.heap.size W wx))
            case atStart => exact ⟨0, Nat.zero_le _, Nat.le_refl _, rfl, rfl, Lib.hid (Below.refl _ _)⟩
            case round =>
              obtain ⟨j, hj, hgj, rfl, rfl, HX⟩ := hrel
              have HXA : Hid (Below wA.heap.size wA wr) := Lib.hid (HBW.out.trans (HX.out.mono HBW.out.size))
              by_cases hlj : j < n2
              · obtain ⟨g2', c2', e2, -⟩ := own_form H2.out (by omega)
                simp only [Value.slice.injEq] at e2
                obtain ⟨rfl, -, rfl⟩ := e2
                have H2w := CellsKept.own (CellsKept.below HXA.out) H2.out
                obtain ⟨f0, f1, f2, f3, f4⟩ := row_cells H2w (HR2.out j hlj)
                have lg := (H2w.lt g2' rfl).2
                have x0w := (HXA.out.cell (p := ⟨b', 0, none⟩) lb).trans x0
                have lbw := Nat.lt_of_lt_of_le lb HXA.out.size
                have u0w := (HX.out.cell (p := ⟨sb, 0, none⟩) lu).trans u0
                have u1w := (HX.out.cell (p := ⟨sb, 1, none⟩) lu).trans u1
                have luw := Nat.lt_of_lt_of_le lu HX.out.size
                obtain ⟨B, hB⟩ : ∃ B, B = anyB j fun j => pn1 i == pn2 j && q i j := ⟨_, rfl⟩
                rw [← hB]
                have HBv := Lib.hid hB
                clear hB H2w
                cases B with
                | true =>
                  go_wp2_with fail
                  go_roundg (n2 - (j + 1))
                  case measure => omega
                  case rel => exact ⟨j + 1, hlj, Nat.le_refl _, by rw [anyB_succ, ← HBv.out]; rfl, by go_num, Lib.hid (HX.out.alloc HX.out.size _)⟩
                | false =>
                  by_cases hnm : pn1 i = pn2 j
                  · have Hnm := Lib.hid hnm
                    rw [← hnm] at f0
                    clear hnm
                    go_wp2_with fail
                    refine (HQ'.out i j hlt hlj _ (HXA.out.alloc HXA.out.size _)).mono ?_
                    rintro e w7 ⟨rfl, hb7⟩
                    have HB7 := Lib.hid (HX.out.trans ((((Below.refl _ _).alloc (Nat.le_refl _) _).trans (hb7.mono (by simp))).mono HX.out.size))
                    clear hb7
                    go_wp2_with fail
                    go_roundg (n2 - (j + 1))
                    case measure => omega
                    case rel => exact ⟨j + 1, hlj, Nat.le_refl _, by rw [anyB_succ, ← HBv.out, ← Hnm.out, bytes_same]; rfl, by go_num, HB7⟩
                  · have hne := name_ne hnm
                    have Hnm := Lib.hid hnm
                    clear hnm
                    go_wp2_with fail
                    go_roundg (n2 - (j + 1))
                    case measure => omega
                    case rel => exact ⟨j + 1, hlj, Nat.le_refl _, by rw [anyB_succ, ← HBv.out, bytes_ne Hnm.out]; rfl, by go_num, Lib.hid (HX.out.alloc HX.out.size _)⟩
              · obtain rfl : j = n2 := by omega
                obtain ⟨B, hB⟩ : ∃ B, B = anyB j fun j => pn1 i == pn2 j && q i j := ⟨_, rfl⟩
                rw [← hB]
                have HBv := Lib.hid hB
                clear hB
                cases B with
                | true =>
                  go_wp2_with fail
                  go_roundg (n1 - (i + 1))
                  case measure => omega
                  case rel => exact ⟨i + 1, hlt, Nat.le_refl _, by go_num, HXA, Lib.hid (by rw [allB_succ, HA.out, ← HBv.out]; rfl)⟩
                | false =>
                  go_wp2_with fail
                  go_ret
                  exact ⟨by rw [allB_false hlt HBv.out.symm, Bool.and_false, Bool.and_false]; rfl, HXA.out⟩
          · obtain rfl : i = n1 := by omega
            go_wp2_with fail
            go_ret
            exact ⟨by rw [he, HA.out, decide_eq_true HLE.out]; rfl, HB.out⟩
      · have hgt : (n2 : Int) < n1 := by omega
        have HLE := Lib.hid hle
        clear hle
        go_wp2_with fail
        go_ret
        exact ⟨by rw [decide_eq_false HLE.out, Bool.false_and, Bool.and_false]; rfl, below_drewN (below_drewN (Below.refl _ _) _) _⟩
end Go.Proofs.YtfilbgmbmlmdbaaGreatDoor

namespace Go.Proofs.YtfilbgmbmlmdbaaGreatDoor
open Go.RowKit Go.MapKept

/-- Where one comes to behind names and qualifiers. -/
inductive Leads (w : World) (D : Nat → Prop) : Nat → Ty → Nat → Prop
  | here {b : Nat} {t : Ty} {k : Int} (r : Rep w D b t) (h0 : w.cell? ⟨b, 0, none⟩ = some (.int .i64 k)) (k8 : (k == 8) = false) (k10 : (k == 10) = false) (hb : t.behind = t) : Leads w D b t b
  | step {b c b' : Nat} {t u : Ty} {k : Int} (hk : k = 8 ∨ k = 10) (h0 : w.cell? ⟨b, 0, none⟩ = some (.int .i64 k)) (h4 : w.cell? ⟨b, 4, none⟩ = some (.pointer (some ⟨c, 0, none⟩))) (lt : b < w.heap.size) (l : Leads w D c u b') (hb : t.behind = u.behind) (hl : t.layers = u.layers + 1) : Leads w D b t b'
theorem leads_any {w : World} {D : Nat → Prop} : ∀ (n : Nat) {b : Nat} {t : Ty}, t.layers ≤ n → Rep w D b t → ∃ b', Leads w D b t b' := by
  intro n
  induction n with
  | zero =>
    intro b t hn r
    rcases r.peel with ⟨k, h0, -, k8, k10, hb⟩ | ⟨c2, u2, h0, h4, r2, hb, hl⟩ | ⟨c2, u2, h0, h4, r2, hb, hl⟩
    · exact ⟨b, .here r h0 k8 k10 hb⟩
    · omega
    · omega
  | succ n ih =>
    intro b t hn r
    rcases r.peel with ⟨k, h0, -, k8, k10, hb⟩ | ⟨c2, u2, h0, h4, r2, hb, hl⟩ | ⟨c2, u2, h0, h4, r2, hb, hl⟩
    · exact ⟨b, .here r h0 k8 k10 hb⟩
    · obtain ⟨b', l⟩ := ih (by omega) r2
      exact ⟨b', .step (.inl rfl) h0 h4 r.lt l hb hl⟩
    · obtain ⟨b', l⟩ := ih (by omega) r2
      exact ⟨b', .step (.inr rfl) h0 h4 r.lt l hb hl⟩
theorem Leads.rep {w : World} {D : Nat → Prop} {b b' : Nat} {t : Ty} (l : Leads w D b t b') : Rep w D b' t.behind := by
  induction l with
  | here r _ _ _ hb => rw [hb]; exact r
  | step _ _ _ _ _ hb _ ih => rw [hb]; exact ih
set_option maxRecDepth 100000 in
set_option maxHeartbeats 1000000 in
theorem behind_at {w : World} {D : Nat → Prop} {b : Nat} {t : Ty} (r : Rep w D b t) :
    ∃ b', Rep w D b' t.behind ∧ Calls Tryz.prog 13 #[.pointer (some ⟨b, 0, none⟩)] w fun e w' => e = .returned (.pointer (some ⟨b', 0, none⟩)) ∧ w' = w := by
  obtain ⟨b', l⟩ := leads_any t.layers (Nat.le_refl _) r
  refine ⟨b', l.rep, ?_⟩
  have lb := r.lt
  clear r
  go_enter Tryz.func13, Tryz.ntmps13
  go_wp2
  go_loopg [0] t.layers (fun k v wr => ∃ c u, v = .pointer (some ⟨c, 0, none⟩) ∧ Leads w D c u b' ∧ u.layers ≤ k ∧ w = wr)
  case atStart => exact ⟨b, t, rfl, l, Nat.le_refl _, rfl⟩
  case round =>
    obtain ⟨c, u, rfl, lu, hk, rfl⟩ := hrel
    cases lu with
    | here r h0 k8 k10 hb =>
      have lc := r.lt
      clear hb r l
      go_wp2
      go_ret
      exact ⟨rfl, rfl⟩
    | @step _ c2 _ _ u2 k hkk h0 h4 lt l2 hb hl =>
      have hlt : u2.layers < gk := by omega
      have L2 := Lib.hid l2
      clear hl hb l l2
      rcases hkk with rfl | rfl
      all_goals
        go_wp2
        go_roundg u2.layers
        case measure => exact hlt
        case rel => exact ⟨c2, u2, rfl, L2.out, Nat.le_refl _, rfl⟩
section
variable {w : World} {b c b' c' : Nat}
set_option linter.unusedSimpArgs false in
set_option maxRecDepth 100000 in
set_option maxHeartbeats 4000000 in
theorem matches_differ {K1 K2 : Int} (hne : K1 ≠ K2)
    (hB1 : Calls Tryz.prog 13 #[.pointer (some ⟨b, 0, none⟩)] w fun e w' => e = .returned (.pointer (some ⟨b', 0, none⟩)) ∧ w' = w)
    (hB2 : Calls Tryz.prog 13 #[.pointer (some ⟨c, 0, none⟩)] w fun e w' => e = .returned (.pointer (some ⟨c', 0, none⟩)) ∧ w' = w)
    (x0 : w.cell? ⟨b', 0, none⟩ = some (.int .i64 K1)) (y0 : w.cell? ⟨c', 0, none⟩ = some (.int .i64 K2)) (lb : b' < w.heap.size) (lc : c' < w.heap.size) :
    Calls Tryz.prog 21 #[.pointer (some ⟨b, 0, none⟩), .pointer (some ⟨c, 0, none⟩)] w fun e w' => e = .returned (.bool false) ∧ Below w.heap.size w w' := by
  have hk : (K1 != K2) = true := by simpa using hne
  have HB1 := Lib.hid hB1
  have HB2 := Lib.hid hB2
  clear hB1 hB2 hne
  go_enter Tryz.func21, Tryz.ntmps21
  go_wp2_with fail
  refine HB1.out.mono ?_
  rintro e w9 ⟨rfl, rfl⟩
  go_wp2_with fail
  refine HB2.out.mono ?_
  rintro e w8 ⟨rfl, rfl⟩
  go_wp2_with fail
  go_quiet (fail)
  go_wp2_with fail
  go_ret
  exact ⟨rfl, below_drewN (Below.refl _ _) _⟩
set_option linter.unusedSimpArgs false in
set_option maxRecDepth 100000 in
set_option maxHeartbeats 4000000 in
theorem matches_int {nm1 nm2 : ByteArray} {sz1 sz2 : Int} {g1 g2 : Bool} {v1 v2 : Value}
    (hB1 : Calls Tryz.prog 13 #[.pointer (some ⟨b, 0, none⟩)] w fun e w' => e = .returned (.pointer (some ⟨b', 0, none⟩)) ∧ w' = w)
    (hB2 : Calls Tryz.prog 13 #[.pointer (some ⟨c, 0, none⟩)] w fun e w' => e = .returned (.pointer (some ⟨c', 0, none⟩)) ∧ w' = w)
    (k1 : Blk w b' #[.int .i64 1, .string nm1, .int .i64 sz1, .bool g1, .pointer none, v1] 38) (k2 : Blk w c' #[.int .i64 1, .string nm2, .int .i64 sz2, .bool g2, .pointer none, v2] 38) :
    Calls Tryz.prog 21 #[.pointer (some ⟨b, 0, none⟩), .pointer (some ⟨c, 0, none⟩)] w fun e w' => e = .returned (.bool (ess nm1 nm2 && (sz1 == sz2 && g1 == g2))) ∧ Below w.heap.size w w' := by
  obtain ⟨x0, x1, x2, x3, -, -⟩ := k1.six
  obtain ⟨y0, y1, y2, y3, -, -⟩ := k2.six
  have lb := k1.lt
  have lc := k2.lt
  have HB1 := Lib.hid hB1
  have HB2 := Lib.hid hB2
  clear hB1 hB2 k1 k2
  cases he : ess nm1 nm2 with
  | false =>
    go_enter Tryz.func21, Tryz.ntmps21
    go_wp2_with fail
    refine HB1.out.mono ?_
    rintro e w9 ⟨rfl, rfl⟩
    go_wp2_with fail
    refine HB2.out.mono ?_
    rintro e w8 ⟨rfl, rfl⟩
    go_wp2_with fail
    go_quiet ((go_at_call 39; exact Calls.quiet_of_same (essential_spec _ _ _)))
    go_wp2_with fail
    go_ret
    exact ⟨rfl, below_drewN (Below.refl _ _) _⟩
  | true =>
    by_cases hs : sz1 = sz2
    · subst hs
      go_enter Tryz.func21, Tryz.ntmps21
      go_wp2_with fail
      refine HB1.out.mono ?_
      rintro e w9 ⟨rfl, rfl⟩
      go_wp2_with fail
      refine HB2.out.mono ?_
      rintro e w8 ⟨rfl, rfl⟩
      go_wp2_with fail
      go_quiet ((go_at_call 39; exact Calls.quiet_of_same (essential_spec _ _ _)))
      go_wp2_with fail
      go_quiet (fail)
      go_wp2_with fail
      go_ret
      exact ⟨by rw [beq_self_eq_true]; rfl, below_drewN (below_drewN (Below.refl _ _) _) _⟩
    · have hsz : (sz1 == sz2) = false := by simpa using hs
      clear hs
      go_enter Tryz.func21, Tryz.ntmps21
      go_wp2_with fail
      refine HB1.out.mono ?_
      rintro e w9 ⟨rfl, rfl⟩
      go_wp2_with fail
      refine HB2.out.mono ?_
      rintro e w8 ⟨rfl, rfl⟩
      go_wp2_with fail
      go_quiet ((go_at_call 39; exact Calls.quiet_of_same (essential_spec _ _ _)))
      go_wp2_with fail
      go_quiet (fail)
      go_wp2_with fail
      go_ret
      exact ⟨by rw [hsz]; rfl, below_drewN (below_drewN (Below.refl _ _) _) _⟩
set_option linter.unusedSimpArgs false in
set_option maxRecDepth 100000 in
set_option maxHeartbeats 4000000 in
theorem matches_ptr {b2 c2 : Nat} {v1 v2 : Value} {q : Bool}
    (hB1 : Calls Tryz.prog 13 #[.pointer (some ⟨b, 0, none⟩)] w fun e w' => e = .returned (.pointer (some ⟨b', 0, none⟩)) ∧ w' = w)
    (hB2 : Calls Tryz.prog 13 #[.pointer (some ⟨c, 0, none⟩)] w fun e w' => e = .returned (.pointer (some ⟨c', 0, none⟩)) ∧ w' = w)
    (k1 : Blk w b' #[.int .i64 2, .string ⟨#[]⟩, .int .i64 0, .bool false, .pointer (some ⟨b2, 0, none⟩), v1] 38) (k2 : Blk w c' #[.int .i64 2, .string ⟨#[]⟩, .int .i64 0, .bool false, .pointer (some ⟨c2, 0, none⟩), v2] 38)
    (hq : ∀ W, Below w.heap.size w W → Calls Tryz.prog 21 #[.pointer (some ⟨b2, 0, none⟩), .pointer (some ⟨c2, 0, none⟩)] W fun e W' => e = .returned (.bool q) ∧ Below W.heap.size W W') :
    Calls Tryz.prog 21 #[.pointer (some ⟨b, 0, none⟩), .pointer (some ⟨c, 0, none⟩)] w fun e w' => e = .returned (.bool q) ∧ Below w.heap.size w w' := by
  obtain ⟨x0, x1, x2, -, x4, -⟩ := k1.six
  obtain ⟨y0, y1, y2, -, y4, -⟩ := k2.six
  have lb := k1.lt
  have lc := k2.lt
  have HB1 := Lib.hid hB1
  have HB2 := Lib.hid hB2
  have HQ := Lib.hid hq
  clear hB1 hB2 k1 k2 hq
  go_enter Tryz.func21, Tryz.ntmps21
  go_wp2_with fail
  refine HB1.out.mono ?_
  rintro e w9 ⟨rfl, rfl⟩
  go_wp2_with fail
  refine HB2.out.mono ?_
  rintro e w8 ⟨rfl, rfl⟩
  go_wp2_with fail
  go_quiet ((go_at_call 39; exact Calls.quiet_of_same (essential_spec _ _ _)))
  rw [show ess ⟨#[]⟩ ⟨#[]⟩ = true from rfl]
  go_wp2_with fail
  refine wp_world (fun W => ∃ d, W = w8.drewN d) ⟨_, rfl⟩ (fun W hW => ?_)
  obtain ⟨d, hW⟩ := hW
  have hbW : Below w8.heap.size w8 W := by rw [hW]; exact below_drewN (Below.refl _ _) _
  have o2W := (hbW.cell (p := ⟨b', 2, none⟩) lb).trans x2
  have o2X := (hbW.cell (p := ⟨c', 2, none⟩) lc).trans y2
  have o1W := (hbW.cell (p := ⟨b', 4, none⟩) lb).trans x4
  have o1X := (hbW.cell (p := ⟨c', 4, none⟩) lc).trans y4
  have lbW := Nat.lt_of_lt_of_le lb hbW.size
  have lcW := Nat.lt_of_lt_of_le lc hbW.size
  have HbW := Lib.hid hbW
  clear hW hbW x0 x1 x2 x4 y0 y1 y2 y4 lb lc
  go_still_tail 8, (by kernel_rfl)
  go_wp2_with fail
  refine (HQ.out _ HbW.out.drew).mono ?_
  rintro e w9 ⟨rfl, hb9⟩
  go_wp2_with fail
  go_ret
  exact ⟨rfl, (HbW.out.drew).trans (hb9.mono HbW.out.size)⟩
set_option linter.unusedSimpArgs false in
set_option maxRecDepth 100000 in
set_option maxHeartbeats 4000000 in
theorem matches_arr {b2 c2 : Nat} {n1 n2 : Int} {v1 v2 : Value} {q : Bool}
    (hB1 : Calls Tryz.prog 13 #[.pointer (some ⟨b, 0, none⟩)] w fun e w' => e = .returned (.pointer (some ⟨b', 0, none⟩)) ∧ w' = w)
    (hB2 : Calls Tryz.prog 13 #[.pointer (some ⟨c, 0, none⟩)] w fun e w' => e = .returned (.pointer (some ⟨c', 0, none⟩)) ∧ w' = w)
    (k1 : Blk w b' #[.int .i64 3, .string ⟨#[]⟩, .int .i64 n1, .bool false, .pointer (some ⟨b2, 0, none⟩), v1] 38) (k2 : Blk w c' #[.int .i64 3, .string ⟨#[]⟩, .int .i64 n2, .bool false, .pointer (some ⟨c2, 0, none⟩), v2] 38)
    (hq : ∀ W, Below w.heap.size w W → Calls Tryz.prog 21 #[.pointer (some ⟨b2, 0, none⟩), .pointer (some ⟨c2, 0, none⟩)] W fun e W' => e = .returned (.bool q) ∧ Below W.heap.size W W') :
    Calls Tryz.prog 21 #[.pointer (some ⟨b, 0, none⟩), .pointer (some ⟨c, 0, none⟩)] w fun e w' => e = .returned (.bool (n1 == n2 && q)) ∧ Below w.heap.size w w' := by
  by_cases hn : n1 = n2
  · subst hn
    rw [beq_self_eq_true, Bool.true_and]
    obtain ⟨x0, x1, x2, -, x4, -⟩ := k1.six
    obtain ⟨y0, y1, y2, -, y4, -⟩ := k2.six
    have lb := k1.lt
    have lc := k2.lt
    have HB1 := Lib.hid hB1
    have HB2 := Lib.hid hB2
    have HQ := Lib.hid hq
    clear hB1 hB2 k1 k2 hq
    go_enter Tryz.func21, Tryz.ntmps21
    go_wp2_with fail
    refine HB1.out.mono ?_
    rintro e w9 ⟨rfl, rfl⟩
    go_wp2_with fail
    refine HB2.out.mono ?_
    rintro e w8 ⟨rfl, rfl⟩
    go_wp2_with fail
    go_quiet ((go_at_call 39; exact Calls.quiet_of_same (essential_spec _ _ _)))
    rw [show ess ⟨#[]⟩ ⟨#[]⟩ = true from rfl]
    go_wp2_with fail
    refine wp_world (fun W => ∃ d, W = w8.drewN d) ⟨_, rfl⟩ (fun W hW => ?_)
    obtain ⟨d, hW⟩ := hW
    have hbW : Below w8.heap.size w8 W := by rw [hW]; exact below_drewN (Below.refl _ _) _
    have o2W := (hbW.cell (p := ⟨b', 2, none⟩) lb).trans x2
    have o2X := (hbW.cell (p := ⟨c', 2, none⟩) lc).trans y2
    have o1W := (hbW.cell (p := ⟨b', 4, none⟩) lb).trans x4
    have o1X := (hbW.cell (p := ⟨c', 4, none⟩) lc).trans y4
    have lbW := Nat.lt_of_lt_of_le lb hbW.size
    have lcW := Nat.lt_of_lt_of_le lc hbW.size
    have HbW := Lib.hid hbW
    clear hW hbW x0 x1 x2 x4 y0 y1 y2 y4 lb lc
    go_still_tail 18, (by kernel_rfl)
    go_wp2_with fail
    refine (HQ.out _ HbW.out.drew).mono ?_
    rintro e w9 ⟨rfl, hb9⟩
    go_wp2_with fail
    go_ret
    exact ⟨rfl, (HbW.out.drew).trans (hb9.mono HbW.out.size)⟩
  · have hne : (n1 == n2) = false := by simpa using hn
    clear hn hq
    obtain ⟨x0, x1, x2, -, x4, -⟩ := k1.six
    obtain ⟨y0, y1, y2, -, y4, -⟩ := k2.six
    have lb := k1.lt
    have lc := k2.lt
    have HB1 := Lib.hid hB1
    have HB2 := Lib.hid hB2
    clear hB1 hB2 k1 k2
    go_enter Tryz.func21, Tryz.ntmps21
    go_wp2_with fail
    refine HB1.out.mono ?_
    rintro e w9 ⟨rfl, rfl⟩
    go_wp2_with fail
    refine HB2.out.mono ?_
    rintro e w8 ⟨rfl, rfl⟩
    go_wp2_with fail
    go_quiet ((go_at_call 39; exact Calls.quiet_of_same (essential_spec _ _ _)))
    rw [show ess ⟨#[]⟩ ⟨#[]⟩ = true from rfl]
    go_wp2_with fail
    go_quiet (fail)
    go_wp2_with fail
    go_ret
    exact ⟨by rw [hne]; rfl, below_drewN (below_drewN (Below.refl _ _) _) _⟩
end
theorem Good.behind {t : Ty} (h : Good t) : Good t.behind := by
  induction h with
  | named _ _ ih => exact ih
  | cst _ _ ih => exact ih
  | int h => exact .int h
  | ptr h => exact .ptr h
  | arr hn h => exact .arr hn h
  | enm h => exact .enm h
  | comp h1 h2 h3 h4 => exact .comp h1 h2 h3 h4
theorem cnt_behind (t : Ty) : t.behind.cnt ≤ t.cnt := by
  induction t with
  | named nm t ih => exact Nat.le_trans ih (Nat.le_succ _)
  | cst t ih => exact Nat.le_trans ih (Nat.le_succ _)
  | _ => exact Nat.le_refl _
theorem sumTo_at (f : Nat → Nat) {i n : Nat} (h : i < n) : f i ≤ sumTo f n := by
  have h1 := sumTo_mono f (show i + 1 ≤ n by omega)
  have h2 : f i ≤ sumTo f (i + 1) := by simp [sumTo]
  omega
theorem cast_beq (a b : Nat) : ((a : Int) == (b : Int)) = (a == b) := by
  by_cases h : a = b
  · subst h; simp
  · have h2 : ¬ (a : Int) = b := by omega
    rw [beq_eq_false_iff_ne.2 h, beq_eq_false_iff_ne.2 h2]
theorem matches_any : ∀ (N : Nat) {t u : Ty} {D D' : Nat → Prop} {b c : Nat} {w : World}, t.cnt ≤ N → Good t → Good u → Rep w D b t → Rep w D' c u →
    Calls Tryz.prog 21 #[.pointer (some ⟨b, 0, none⟩), .pointer (some ⟨c, 0, none⟩)] w fun e w' => e = .returned (.bool (tm t u)) ∧ Below w.heap.size w w' := by
  intro N
  induction N with
  | zero => intro t u D D' b c w h; have := Ty.cnt_pos t; omega
  | succ N ih =>
    intro t u D D' b c w hN gt gu r r'
    obtain ⟨b', rb, hB1⟩ := behind_at r
    obtain ⟨c', rc, hB2⟩ := behind_at r'
    rw [← tm_behind_left, ← tm_behind_right]
    have hN' := Nat.le_trans (cnt_behind t) hN
    replace gt := gt.behind
    replace gu := gu.behind
    have it := behind_idem t
    have iu := behind_idem u
    have kt := behind_kinds t
    have ku := behind_kinds u
    clear hN r r'
    generalize t.behind = t' at rb gt it kt hN' ⊢
    generalize u.behind = u' at rc gu iu ku ⊢
    by_cases hk : t'.kind = u'.kind
    · cases rb with
      | int h1 _ =>
        cases rc with
        | int h2 _ =>
          have := matches_int hB1 hB2 h1 h2
          rw [cast_beq] at this
          exact this
        | @comp _ _ _ un => cases un <;> cases hk
        | _ => cases hk
      | @ptr _ _ t1 h1 _ r1 =>
        cases rc with
        | @ptr _ _ u1 h2 _ r2 =>
          cases gt with | ptr gt => cases gu with | ptr gu =>
          exact matches_ptr (q := tm t1 u1) hB1 hB2 h1 h2 fun W hW => ih (by simp only [Ty.cnt] at hN'; omega) gt gu (r1.old hW) (r2.old hW)
        | @comp _ _ _ un => cases un <;> cases hk
        | _ => cases hk
      | arr h1 _ r1 =>
        cases rc with
        | arr h2 _ r2 =>
          cases gt with | arr _ gt => cases gu with | arr _ gu =>
          have := matches_arr hB1 hB2 h1 h2 fun W hW => ih (by simp only [Ty.cnt] at hN'; omega) gt gu (r1.old hW) (r2.old hW)
          rw [cast_beq] at this
          exact this
        | @comp _ _ _ un => cases un <;> cases hk
        | _ => cases hk
      | named => exact absurd rfl kt.1
      | cst => exact absurd rfl kt.2
      | enm h1 _ o1 _ p1 =>
        cases rc with
        | enm h2 _ o2 _ p2 =>
          cases gt with | enm gt => cases gu with | enm gu =>
          exact matches_parts (.inr (.inr rfl)) hB1 hB2 h1 h2 o1 o2 p1 p2 (fun _ => rfl) gt gu (fun _ _ => true) (fun _ _ _ => rfl) (fun h => absurd rfl h)
        | @comp _ _ _ un => cases un <;> cases hk
        | _ => cases hk
      | @comp _ _ n1 un1 _ pn1 py1 _ _ _ _ pc1 h1 _ o1 _ p1 r1 =>
        cases rc with
        | @comp _ _ n2 un2 _ pn2 py2 _ _ _ _ pc2 h2 _ o2 _ p2 r2 =>
          have hun : un1 = un2 := by cases un1 <;> cases un2 <;> first | rfl | cases hk
          subst hun
          cases gt with | comp _ gn _ gt => cases gu with | comp _ gm _ gu =>
          have := matches_parts (K := if un1 then 5 else 4) (by cases un1 <;> simp) hB1 hB2 h1 h2 o1 o2 p1 p2 (by cases un1 <;> simp) gn gm (fun i j => tm (py1 i) (py2 j)) (by cases un1 <;> simp)
            (fun _ i j hi hj W hW => ih (by simp only [Ty.cnt] at hN'; have := sumTo_at (fun i => (py1 i).cnt) hi; omega) (gt i hi) (gu j hj) ((r1 i hi).old hW) ((r2 j hj).old hW))
          refine this.mono fun e w' h => ⟨?_, h.2⟩
          rw [h.1]
          simp only [tm, Ty.behind, beq_self_eq_true, Bool.true_and]
        | int => cases un1 <;> cases hk
        | ptr => cases un1 <;> cases hk
        | arr => cases un1 <;> cases hk
        | named => cases un1 <;> cases hk
        | cst => cases un1 <;> cases hk
        | enm => cases un1 <;> cases hk
    · have hf : tm t' u' = false := tm_kind (by rw [it, iu]; exact hk)
      rw [hf]
      exact matches_differ (K1 := t'.kind) (K2 := u'.kind) (by omega) hB1 hB2 rb.kindCell rc.kindCell rb.lt rc.lt
#print axioms matches_any
#print axioms behind_at
#print axioms matches_differ
#print axioms matches_int
end Go.Proofs.YtfilbgmbmlmdbaaGreatDoor
