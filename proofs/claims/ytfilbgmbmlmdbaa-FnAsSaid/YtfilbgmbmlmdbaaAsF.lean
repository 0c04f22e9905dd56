/- The law FnAs answers true: the walk. -/
import Derived.Test.YtfilbgmbmlmdbaaAsK
import Derived.Test.YtfilbgmbmlmdbaaBlobB
import Derived.Deep.DeepCutAuto
import Derived.Deep.CutBlock
namespace Go.Proofs.Ytfilbgmbmlmdbaa
open Go.RowKit

theorem RowFits.old {w w' : World} {D : Nat → Prop} {xs : List Value} {n i : Nat} {k : Int} {nm : ByteArray} {sz en fl : Int} {of ix : Nat} {mv : Value} {q : Nat} {ys : List Value} (h : RowFits w D xs n i k nm sz en fl of ix mv q ys) (hb : Below w.heap.size w w') :
    RowFits w' D xs n i k nm sz en fl of ix mv q ys := { h with own := ownsRow_of h.own fun x _ hl => hb.block x hl }

set_option maxRecDepth 100000 in
set_option maxHeartbeats 4000000 in
theorem FnAs_any (w : World) (ln mn lcap : Nat) (la : Option Addr) (mv : Value) (a kd : Nat) (hl : U32s w (.slice la ln lcap) ln) (hm : U32s w mv mn) (hlc : ln ≤ lcap) (ha : a < 256) (hkd : kd < 256) :
    Calls Try.prog 3 #[.slice la ln lcap, mv, .int .u8 a, .int .u8 kd] w fun e w' => e = .returned (.bool true) ∧ Below w.heap.size w w' := by
  have Hm := Lib.hid hm
  have Hl := Lib.hid hl
  clear hl
  obtain ⟨ma, mcap, rfl, -⟩ := hm
  by_cases hbig : 2147483647 < ln ∨ 2147483647 < mn ∨ 100 < ln ∨ 100 < mn ∨ ln = 0
  · by_cases b1 : (2147483647 : Int) < ln
    · go_enter Try.func3, Try.ntmps3
      go_wp2_with fail
      go_ret
      exact ⟨rfl, Below.refl _ _⟩
    · by_cases b2 : (2147483647 : Int) < mn
      · go_enter Try.func3, Try.ntmps3
        go_wp2_with fail
        go_ret
        exact ⟨rfl, Below.refl _ _⟩
      · by_cases b3 : (100 : Int) < ln
        · go_enter Try.func3, Try.ntmps3
          go_wp2_with fail
          go_ret
          exact ⟨rfl, Below.refl _ _⟩
        · by_cases b4 : (100 : Int) < mn
          · go_enter Try.func3, Try.ntmps3
            go_wp2_with fail
            go_ret
            exact ⟨rfl, Below.refl _ _⟩
          · have b5 : ((ln : Int) == 0) = true := by simp; omega
            go_enter Try.func3, Try.ntmps3
            go_wp2_with fail
            go_ret
            exact ⟨rfl, Below.refl _ _⟩
  · have h1 : ¬ (2147483647 : Int) < ln := by omega
    have h2 : ¬ (2147483647 : Int) < mn := by omega
    have h3 : ¬ (100 : Int) < ln := by omega
    have h4 : ¬ (100 : Int) < mn := by omega
    have h5 : ((ln : Int) == 0) = false := by simp; omega
    go_enter Try.func3, Try.ntmps3
    go_wp2_with fail
    refine (blobOf_any ln mn lcap la (.slice ma mn mcap) w Hl.out Hm.out (by omega) (by omega) hlc).mono ?_
    rintro e w1 ⟨v, n, xs, D, rfl, rows, hn1, hn2, hb1⟩
    obtain ⟨g, cap, rfl, hgl⟩ := own_form rows.own hn1
    obtain ⟨f, hf⟩ := rows.data
    go_upto_region 6 with fail
    go_cut [10] (fun s10 wx => ∃ kT : Int, s10 = .int .i64 kT ∧ (kT = 1 ∨ kT = 2 ∨ kT = 3 ∨ kT = 4 ∨ kT = 5 ∨ kT = 6 ∨ kT = 8) ∧ Below w1.heap.size w1 wx)
    case first =>
      rcases (by omega : (kd : Int) % 7 = 0 ∨ (kd : Int) % 7 = 1 ∨ (kd : Int) % 7 = 2 ∨ (kd : Int) % 7 = 3 ∨ (kd : Int) % 7 = 4 ∨ (kd : Int) % 7 = 5 ∨ (kd : Int) % 7 = 6) with h | h | h | h | h | h | h
      all_goals
        go_wp2_with fail
        go_meet
        exact ⟨_, rfl, by omega, (Below.refl _ _).alloc (Nat.le_refl _) _⟩
    case rest =>
      obtain ⟨kT, rfl, hkT, hb2⟩ := hcut
      obtain ⟨w2, rfl⟩ : ∃ w2 : World, w2 = wc := ⟨_, rfl⟩
      have own2 := ownsRow_of rows.own fun x _ hl => hb2.block x hl
      have hgl2 : g < w2.heap.size := Nat.lt_of_lt_of_le hgl hb2.size
      have hn0 : ¬ (n : Int) = 0 := by omega
      obtain ⟨t, hmod, htn⟩ : ∃ t : Nat, (a : Int) % (n : Int) = (t : Int) ∧ t < n := ⟨a % n, by simp, Nat.mod_lt _ (by omega)⟩
      have hadd : (1 : Int) + (t : Int) = (t : Int) + 1 := by omega
      have hts : (t : Int) ≤ 1000000 := by omega
      have hf2 : ∀ i, i < n → FitsD w2 D xs n i (f i) := fun i hi => (hf i hi).old hb2
      have hpl : (f t).k = 8 ∨ (f t).k = 10 → ∃ j, j < n ∧ (f t).of = j + 1 ∧ (f j).k = 1 := fun h => by
        obtain ⟨j, hj, ho, hx⟩ := (hf t htn).peel h
        have e := hx.symm.trans (hf j hj).row.1
        simp only [Option.some.injEq, Value.int.injEq, true_and] at e
        exact ⟨j, hj, ho, e.symm⟩
      obtain ⟨q0, -, -, -, -, q5, -, -⟩ := lrow_cells own2 (hf2 t htn).row
      have hB : Below w.heap.size w w2 := hb1.trans (hb2.mono hb1.size)
      have hgt : (0 : Int) < (t : Int) + 1 := by omega
      have hnz : (((t : Int) + 1) == 0) = false := by simp; omega
      by_cases hkk : (f t).k = kT
      · have e1 : ((f t).k != kT) = false := by simp [hkk]
        have hr : asRow kT f t = some t := if_pos hkk
        go_wp2_with fail
        go_loopg [12] 1 (fun gk s12 wr => s12 = .int .i64 ((t : Int) + 1) ∧ wr = w2)
        case atStart => exact ⟨rfl, rfl⟩
        case round =>
          obtain ⟨rfl, rfl⟩ := hrel
          go_wp2_with fail
          refine (AsKind_any _ n cap g t kT xs D f own2 (by omega) hf2 htn hpl hkT).mono ?_
          rintro e w3 ⟨hb3, hs⟩
          unfold AsSaid at hs
          rw [hr] at hs
          obtain ⟨-, rfl⟩ := hs
          have own3 := ownsRow_of own2 fun x _ hl => hb3.block x hl
          obtain ⟨q03, -⟩ := lrow_cells own3 (hf2 t htn).row
          have hgl3 := Nat.lt_of_lt_of_le hgl2 hb3.size
          go_wp2_with fail
          go_ret
          exact ⟨rfl, hB.trans (hb3.mono hB.size)⟩
      · have e1 : ((f t).k != kT) = true := by simp [hkk]
        by_cases hpq : (f t).k = 8 ∨ (f t).k = 10
        · obtain ⟨j, hj, ho, hkj⟩ := hpl hpq
          obtain ⟨p0, -, -, -, -, -, -, -⟩ := lrow_cells own2 (hf2 j hj).row
          rw [hkj] at p0
          rw [ho] at q5
          have hjp : (0 : Int) < (j : Int) + 1 := by omega
          have hjs : (j : Int) ≤ 1000000 := by omega
          have hjz : (((j : Int) + 1) == 0) = false := by simp; omega
          have hcast : ((j + 1 : Nat) : Int) = (j : Int) + 1 := by omega
          rw [hcast] at q5
          have HK := Lib.hid hkj
          have HO := Lib.hid ho
          clear hkj ho
          rcases hpq with h8 | h10
          · have e8 : ((f t).k == 8) = true := by simp [h8]
            have H8 := Lib.hid h8
            clear h8
            go_wp2_with fail
            go_loopg [12] 1 (fun gk s12 wr => wr = w2 ∧ ((gk = 1 ∧ s12 = .int .i64 ((t : Int) + 1)) ∨ (gk = 0 ∧ s12 = .int .i64 ((j : Int) + 1))))
            case atStart => exact ⟨rfl, .inl ⟨rfl, rfl⟩⟩
            case round =>
              obtain ⟨rfl, ⟨rfl, rfl⟩ | ⟨rfl, rfl⟩⟩ := hrel
              · go_wp2_with fail
                go_roundg 0
                case measure => omega
                case rel => exact ⟨rfl, .inr ⟨rfl, rfl⟩⟩
              · by_cases hk1 : kT = 1
                · subst hk1
                  have hr : asRow 1 f t = some j := by
                    unfold asRow
                    rw [if_neg hkk, if_pos ⟨.inl H8.out, rfl⟩, HO.out]; simp
                  go_wp2_with fail
                  refine (AsKind_any _ n cap g t 1 xs D f own2 (by omega) hf2 htn hpl (.inl rfl)).mono ?_
                  rintro e w3 ⟨hb3, hs⟩
                  unfold AsSaid at hs
                  rw [hr] at hs
                  obtain ⟨-, rfl⟩ := hs
                  have own3 := ownsRow_of own2 fun x _ hl => hb3.block x hl
                  obtain ⟨q03, -⟩ := lrow_cells own3 (hf2 j hj).row
                  rw [HK.out] at q03
                  have hgl3 := Nat.lt_of_lt_of_le hgl2 hb3.size
                  go_wp2_with fail
                  go_ret
                  exact ⟨rfl, hB.trans (hb3.mono hB.size)⟩
                · have hr : asRow kT f t = none := by
                    unfold asRow
                    rw [if_neg hkk, if_neg (fun h => hk1 h.2)]
                  have e2 : ((1 : Int) != kT) = true := by simp; omega
                  go_wp2_with fail
                  refine (AsKind_any _ n cap g t kT xs D f own2 (by omega) hf2 htn hpl hkT).mono ?_
                  rintro e w3 ⟨hb3, hs⟩
                  unfold AsSaid at hs
                  rw [hr] at hs
                  simp only at hs
                  subst hs
                  have own3 := ownsRow_of own2 fun x _ hl => hb3.block x hl
                  obtain ⟨q03, -⟩ := lrow_cells own3 (hf2 j hj).row
                  rw [HK.out] at q03
                  have hgl3 := Nat.lt_of_lt_of_le hgl2 hb3.size
                  go_wp2_with fail
                  go_ret
                  exact ⟨rfl, hB.trans (hb3.mono hB.size)⟩
          · have e8 : ((f t).k == 8) = false := by simp [h10]
            have e10 : ((f t).k == 10) = true := by simp [h10]
            have H10 := Lib.hid h10
            clear h10
            go_wp2_with fail
            go_loopg [12] 1 (fun gk s12 wr => wr = w2 ∧ ((gk = 1 ∧ s12 = .int .i64 ((t : Int) + 1)) ∨ (gk = 0 ∧ s12 = .int .i64 ((j : Int) + 1))))
            case atStart => exact ⟨rfl, .inl ⟨rfl, rfl⟩⟩
            case round =>
              obtain ⟨rfl, ⟨rfl, rfl⟩ | ⟨rfl, rfl⟩⟩ := hrel
              · go_wp2_with fail
                go_roundg 0
                case measure => omega
                case rel => exact ⟨rfl, .inr ⟨rfl, rfl⟩⟩
              · by_cases hk1 : kT = 1
                · subst hk1
                  have hr : asRow 1 f t = some j := by
                    unfold asRow
                    rw [if_neg hkk, if_pos ⟨.inr H10.out, rfl⟩, HO.out]; simp
                  go_wp2_with fail
                  refine (AsKind_any _ n cap g t 1 xs D f own2 (by omega) hf2 htn hpl (.inl rfl)).mono ?_
                  rintro e w3 ⟨hb3, hs⟩
                  unfold AsSaid at hs
                  rw [hr] at hs
                  obtain ⟨-, rfl⟩ := hs
                  have own3 := ownsRow_of own2 fun x _ hl => hb3.block x hl
                  obtain ⟨q03, -⟩ := lrow_cells own3 (hf2 j hj).row
                  rw [HK.out] at q03
                  have hgl3 := Nat.lt_of_lt_of_le hgl2 hb3.size
                  go_wp2_with fail
                  go_ret
                  exact ⟨rfl, hB.trans (hb3.mono hB.size)⟩
                · have hr : asRow kT f t = none := by
                    unfold asRow
                    rw [if_neg hkk, if_neg (fun h => hk1 h.2)]
                  have e2 : ((1 : Int) != kT) = true := by simp; omega
                  go_wp2_with fail
                  refine (AsKind_any _ n cap g t kT xs D f own2 (by omega) hf2 htn hpl hkT).mono ?_
                  rintro e w3 ⟨hb3, hs⟩
                  unfold AsSaid at hs
                  rw [hr] at hs
                  simp only at hs
                  subst hs
                  have own3 := ownsRow_of own2 fun x _ hl => hb3.block x hl
                  obtain ⟨q03, -⟩ := lrow_cells own3 (hf2 j hj).row
                  rw [HK.out] at q03
                  have hgl3 := Nat.lt_of_lt_of_le hgl2 hb3.size
                  go_wp2_with fail
                  go_ret
                  exact ⟨rfl, hB.trans (hb3.mono hB.size)⟩
        · have e8 : ((f t).k == 8) = false := by simp; omega
          have e10 : ((f t).k == 10) = false := by simp; omega
          have hr : asRow kT f t = none := by
            unfold asRow
            rw [if_neg hkk, if_neg (fun h => hpq h.1)]
          go_wp2_with fail
          go_loopg [12] 1 (fun gk s12 wr => s12 = .int .i64 ((t : Int) + 1) ∧ wr = w2)
          case atStart => exact ⟨rfl, rfl⟩
          case round =>
            obtain ⟨rfl, rfl⟩ := hrel
            go_wp2_with fail
            refine (AsKind_any _ n cap g t kT xs D f own2 (by omega) hf2 htn hpl hkT).mono ?_
            rintro e w3 ⟨hb3, hs⟩
            unfold AsSaid at hs
            rw [hr] at hs
            simp only at hs
            subst hs
            have own3 := ownsRow_of own2 fun x _ hl => hb3.block x hl
            obtain ⟨q03, -⟩ := lrow_cells own3 (hf2 t htn).row
            have hgl3 := Nat.lt_of_lt_of_le hgl2 hb3.size
            go_wp2_with fail
            go_ret
            exact ⟨rfl, hB.trans (hb3.mono hB.size)⟩
#print axioms FnAs_any
end Go.Proofs.Ytfilbgmbmlmdbaa
