/- The law FnAdded answers true: the walk. -/
import Derived.Test.YtfilbgmbmlmdbaaAddD
import Derived.Test.YtfilbgmbmlmdbaaBlobB
import Derived.Deep.DeepCutAuto
import Derived.Deep.CutBlock
namespace Go.Proofs.Ytfilbgmbmlmdbaa
open Go.RowKit Go.MapKept

theorem RowFits.older {w w' : World} {D : Nat → Prop} {xs : List Value} {n i : Nat} {k : Int} {nm : ByteArray} {sz en fl : Int} {of ix : Nat} {mv : Value} {q : Nat} {ys : List Value} (h : RowFits w D xs n i k nm sz en fl of ix mv q ys) (hb : Below w.heap.size w w') :
    RowFits w' D xs n i k nm sz en fl of ix mv q ys := { h with own := ownsRow_of h.own fun x _ hl => hb.block x hl }

/-- What the law's own map tells: the numbers of phi, at places from 1 on. -/
structure TellsI (φ : Nat → Option Nat) (m : Value → Option Value) : Prop where
  at_ : ∀ i : Nat, m (.int .i64 ((i : Int) + 1)) = (φ i).map fun c => .int .i64 (c : Int)
  only : ∀ x u, m x = some u → IntKey .i64 x
theorem TellsI.start : TellsI (fun _ => none) (fun _ => none) := ⟨fun _ => rfl, fun _ _ h => by cases h⟩
theorem TellsI.put {c i : Nat} {φ : Nat → Option Nat} {m m' : Value → Option Value} (h : TellsI φ m) (h1 : m' (.int .i64 ((i : Int) + 1)) = some (.int .i64 (c : Int))) (h2 : ∀ y, y ≠ .int .i64 ((i : Int) + 1) → m' y = m y) :
    TellsI (fun j => if j = i then some c else φ j) m' := by
  refine ⟨fun j => ?_, fun x u hx => ?_⟩
  · by_cases e : j = i
    · subst e; simp [h1]
    · rw [h2 _ fun e' => e (by simp only [Value.int.injEq, true_and] at e'; omega)]
      simp only [if_neg e]
      exact h.at_ j
  · by_cases e : x = .int .i64 ((i : Int) + 1)
    · exact ⟨_, e⟩
    · rw [h2 _ e] at hx
      exact h.only x u hx
theorem IdxS.of {w : World} {base p n : Nat} {v : Value} {ys : List Value} {is : Nat → Nat} (ho : w.ownsRow base 3 1 v p ys) (hy : ∀ j, j < p → ys[j]? = some (.int .i64 ((is j : Int) + 1))) (hi : ∀ j, j < p → is j < n) : IdxS w v p n is := by
  obtain ⟨a, cap, hv⟩ := own_slice ho
  refine ⟨a, cap, hv, ?_, hi⟩
  by_cases hp : p = 0
  · exact .inl hp
  · obtain ⟨g, cap', e, hg⟩ := own_form ho (by omega)
    rw [hv] at e
    simp only [Value.slice.injEq, true_and] at e
    obtain ⟨rfl, rfl⟩ := e
    refine .inr ⟨g, rfl, hg, fun j hj => ?_⟩
    subst hv
    exact own_cell ho (hy j hj)

/-- The places gathered so far. -/
structure Gath (lo : Nat) (is : Nat → Nat) (k : Nat) (v : Value) (ys : List Value) (w2 wr : World) : Prop where
  own : wr.ownsRow lo 3 1 v k ys
  has : ∀ j, j < k → ys[j]? = some (.int .i64 ((is j : Int) + 1))
  old : Below lo w2 wr
theorem Gath.step {lo k g cap : Nat} {is : Nat → Nat} {v : Value} {ys : List Value} {w2 wr w4 : World} {c : Array Value} {t : TypeId} (st : Gath lo is k v ys w2 wr) (hlo : lo ≤ wr.heap.size) (hap : Appended (wr.alloc (.cells c t)) lo 3 1 v k 1 ys [.int .i64 ((is k : Int) + 1)] g cap w4) :
    Gath lo is (k + 1) (.slice (some ⟨g, 0, none⟩) (k + 1) cap) (ys ++ [.int .i64 ((is k : Int) + 1)]) w2 w4 := by
  obtain ⟨p1, p2, p3, p4⟩ := hap
  refine ⟨p1, fun j hj => ?_, (st.old.alloc hlo _).grown p2 (by simp; omega) (fun x hx => (st.own.lt x hx).1)⟩
  have hl := st.own.1
  by_cases hjk : j < k
  · rw [List.getElem?_append_left (by omega)]; exact st.has j hjk
  · obtain rfl : j = k := by omega
    rw [List.getElem?_append_right (by omega)]
    have e : j - ys.length = 0 := by omega
    rw [e]; rfl

set_option maxRecDepth 100000 in
set_option maxHeartbeats 4000000 in
theorem FnAdded_any (w : World) (ln mn lcap q ocap : Nat) (la oa : Option Addr) (mv : Value) (zo : Nat → Nat) (hl : U32s w (.slice la ln lcap) ln) (hm : U32s w mv mn) (hlc : ln ≤ lcap) (hqc : q ≤ ocap)
    (ho : q = 0 ∨ ∃ b off, oa = some ⟨b, off, none⟩ ∧ b < w.heap.size ∧ ∀ j, j < q → w.cell? ⟨b, off + j, none⟩ = some (.int .u8 (zo j : Int)) ∧ zo j < 256) :
    Calls Try.prog 4 #[.slice la ln lcap, mv, .slice oa q ocap] w fun e w' => e = .returned (.bool true) ∧ Below w.heap.size w w' := by
  have Hm := Lib.hid hm
  have Hl := Lib.hid hl
  have Ho := Lib.hid ho
  clear hl ho
  obtain ⟨ma, mcap, rfl, -⟩ := hm
  by_cases hbig : 2147483647 < ln ∨ 2147483647 < mn ∨ 2147483647 < q ∨ 100 < ln ∨ 100 < mn ∨ ln = 0 ∨ 100 < q
  · by_cases b1 : (2147483647 : Int) < ln
    · go_enter Try.func4, Try.ntmps4
      go_wp2_with fail
      go_ret
      exact ⟨rfl, Below.refl _ _⟩
    · by_cases b2 : (2147483647 : Int) < mn
      · go_enter Try.func4, Try.ntmps4
        go_wp2_with fail
        go_ret
        exact ⟨rfl, Below.refl _ _⟩
      · by_cases b6 : (2147483647 : Int) < q
        · go_enter Try.func4, Try.ntmps4
          go_wp2_with fail
          go_ret
          exact ⟨rfl, Below.refl _ _⟩
        · by_cases b3 : (100 : Int) < ln
          · go_enter Try.func4, Try.ntmps4
            go_wp2_with fail
            go_ret
            exact ⟨rfl, Below.refl _ _⟩
          · by_cases b4 : (100 : Int) < mn
            · go_enter Try.func4, Try.ntmps4
              go_wp2_with fail
              go_ret
              exact ⟨rfl, Below.refl _ _⟩
            · by_cases hz : ln = 0
              · have b5 : ((ln : Int) == 0) = true := by simp; omega
                go_enter Try.func4, Try.ntmps4
                go_wp2_with fail
                go_ret
                exact ⟨rfl, Below.refl _ _⟩
              · have b5 : ((ln : Int) == 0) = false := by simp; omega
                have b7 : (100 : Int) < q := by omega
                clear hz
                go_enter Try.func4, Try.ntmps4
                go_wp2_with fail
                go_ret
                exact ⟨rfl, Below.refl _ _⟩
  · have h1 : ¬ (2147483647 : Int) < ln := by omega
    have h2 : ¬ (2147483647 : Int) < mn := by omega
    have h6 : ¬ (2147483647 : Int) < q := by omega
    have h3 : ¬ (100 : Int) < ln := by omega
    have h4 : ¬ (100 : Int) < mn := by omega
    have h5 : ((ln : Int) == 0) = false := by simp; omega
    have h7 : ¬ (100 : Int) < q := by omega
    go_enter Try.func4, Try.ntmps4
    go_wp2_with fail
    refine (blobOf_any ln mn lcap la (.slice ma mn mcap) w Hl.out Hm.out (by omega) (by omega) hlc).mono ?_
    rintro e w1 ⟨v, n, xs, D, rfl, rows, hn1, hn2, hb1⟩
    obtain ⟨g, cap, rfl, hgl⟩ := own_form rows.own hn1
    obtain ⟨f, hf⟩ := rows.data
    go_upto_region 7 with fail
    go_cut [60, 61, 62] (fun s60 s61 s62 wx => ∃ p : Nat, s60 = .slice oa p ocap ∧ s61 = .int .i64 (p : Nat) ∧ s62 = .int .i64 0 ∧ p ≤ q ∧ p ≤ 12 ∧ wx = w1.alloc (.cells #[] 3))
    case first =>
      by_cases h12 : q ≤ 12
      · have hc1 : ¬ (12 : Int) < q := by omega
        go_wp2_with fail
        go_meet
        exact ⟨q, rfl, rfl, rfl, Nat.le_refl _, h12, rfl⟩
      · have hc1 : (12 : Int) < q := by omega
        go_wp2_with fail
        go_meet
        exact ⟨12, rfl, rfl, rfl, by omega, Nat.le_refl _, rfl⟩
    case rest =>
      obtain ⟨p, rfl, rfl, rfl, hpq, hp12, hwc⟩ := hcut
      have hb2 : Below w1.heap.size w1 wc := by rw [hwc]; exact (Below.refl _ _).alloc (Nat.le_refl _) _
      have hblk : Blk wc w1.heap.size #[] 3 := by rw [hwc]; exact Blk.new _ _ _
      clear hwc
      obtain ⟨w2, rfl⟩ : ∃ w2 : World, w2 = wc := ⟨_, rfl⟩
      have hB2 : Below w.heap.size w w2 := hb1.trans (hb2.mono hb1.size)
      have hgl2 : g < w2.heap.size := Nat.lt_of_lt_of_le hgl hb2.size
      have hn0 : ¬ (n : Int) = 0 := by omega
      have hst : w2.ownsRow w1.heap.size 3 1 (.slice (some ⟨w1.heap.size, 0, none⟩) 0 0) 0 [] := ⟨rfl, .inr ⟨w1.heap.size, 0, #[], rfl, Nat.le_refl _, hblk, Nat.le_refl _, Nat.zero_le _, rfl, rfl⟩⟩
      obtain ⟨is, his⟩ : ∃ is : Nat → Nat, ∀ j, is j = zo j % n := ⟨_, fun _ => rfl⟩
      have hin : ∀ j, is j < n := fun j => by rw [his]; exact Nat.mod_lt _ (by omega)
      have hw12 : w1.heap.size ≤ w2.heap.size := hb2.size
      have hgs : Gath w1.heap.size is 0 (.slice (some ⟨w1.heap.size, 0, none⟩) 0 0) [] w2 w2 := ⟨hst, fun j h => absurd h (Nat.not_lt_zero j), Below.refl _ _⟩
      have His := Lib.hid his
      have Hin := Lib.hid hin
      have Hf := Lib.hid hf
      have Hrows := Lib.hid rows.own
      clear his hin hst hf hblk rows
      go_wp2_with fail
      go_loopg [8, 62] p (fun gk s8 s62 wr => ∃ k ys, k ≤ p ∧ p - k ≤ gk ∧ s62 = .int .i64 (k : Nat) ∧ Gath w1.heap.size is k s8 ys w2 wr)
      case atStart => exact ⟨0, [], Nat.zero_le _, Nat.le_refl _, rfl, hgs⟩
      case round =>
        obtain ⟨k, ys, hkp, hgk, rfl, st⟩ := hrel
        by_cases hlt : k < p
        · rcases Ho.out with h0 | ⟨b, off, rfl, hbl, hc⟩
          · omega
          have hc0 := ((hB2.trans (st.old.mono hb1.size)).cell hbl).trans (hc k (by omega)).1
          have hz256 : (zo k : Int) < 256 := by have := (hc k (by omega)).2; omega
          have hbl2 : b < wr.heap.size := Nat.lt_of_lt_of_le hbl (Nat.le_trans hB2.size st.old.size)
          have hmod : (zo k : Int) % (n : Int) = (is k : Int) := by rw [His.out]; simp
          have hts : (is k : Int) ≤ 1000000 := by have := Hin.out k; omega
          have hadd : (1 : Int) + (is k : Int) = (is k : Int) + 1 := by omega
          have hlw : w1.heap.size ≤ wr.heap.size := Nat.le_trans hw12 st.old.size
          clear Ho hc
          go_wp2_with (at_builtin; refine wpList_app intElem (.tmp 66) (.tmp 73) rfl rfl w1.heap.size _ k ys rfl (st.own.alloc _) wr.heap.size 1 1 _ rfl (Blk.new _ _ _) rfl rfl (by decide) ?_ ?ka1 ?ka2 ?ka3; intro g cap w4 ha)
          case ka1 => omega
          case ka2 => unfold maxLen; omega
          case ka3 => simp; omega
          go_roundg (p - (k + 1))
          case measure => omega
          case rel => exact ⟨k + 1, _, hlt, Nat.le_refl _, by go_num, st.step hlw ha⟩
        · obtain rfl : k = p := by omega
          obtain ⟨ua, ucap, rfl⟩ := own_slice st.own
          have hidx : IdxS wr (.slice ua k ucap) k n is := IdxS.of st.own st.has (fun j _ => Hin.out j)
          have hb3 : Below w1.heap.size w1 wr := hb2.trans st.old
          have ownr := ownsRow_of Hrows.out fun x _ hl => hb3.block x hl
          have hB3 : Below w.heap.size w wr := hb1.trans (hb3.mono hb1.size)
          have Hidx := Lib.hid hidx
          clear st hidx Ho
          obtain ⟨wA, rfl⟩ : ∃ wA : World, wA = wr := ⟨_, rfl⟩
          go_wp2_with fail
          refine (added_any wA n cap g k xs D f (.slice ua k ucap) is ownr (by omega) (fun i hi => (Hf.out i hi).older hb3) Hidx.out (by omega)).mono ?_
          rintro e w3 ⟨gv, zs, rfl, hgo, hgz, hb4⟩
          obtain ⟨ga, gcap, rfl⟩ := own_slice hgo
          have hmm := @run_makeMap Try.prog
          have Hgz := Lib.hid hgz
          have Hgo := Lib.hid hgo
          clear hgz hgo ownr
          go_wp2_with fail
          have hs4 : (w3.alloc (.map #[] 0)).heap.size = w3.heap.size + 1 := by simp
          have hmp0 := IsMapOf.made w3
          have hb5 : Below w3.heap.size w3 (w3.alloc (.map #[] 0)) := (Below.refl _ _).alloc (Nat.le_refl _) _
          have hA3 : wA.heap.size ≤ w3.heap.size := hb4.size
          go_loopg [13, 94] k (fun gk s13 s94 wr => ∃ i m, i ≤ k ∧ k - i ≤ gk ∧ s94 = .int .i64 (i : Nat) ∧ s13 = .int .i64 (((cntOf is i).2 : Int) + 1) ∧ IsMapOf wr w3.heap.size m ∧ TellsI (cntOf is i).1 m ∧ Below w3.heap.size w3 wr)
          case atStart => exact ⟨0, _, Nat.zero_le _, Nat.le_refl _, rfl, rfl, hmp0, TellsI.start, hb5⟩
          case round =>
            obtain ⟨i, m, hik, hgi, rfl, rfl, hmp, ht, hb6⟩ := hrel
            by_cases hik2 : i < k
            · obtain ⟨ub, ucap', e, hul, hu, -⟩ := Hidx.out.at_ (hb4.trans (hb6.mono hA3)) hik2
              simp only [Value.slice.injEq, true_and] at e
              obtain ⟨rfl, rfl⟩ := e
              obtain ⟨gb, gcap', e, hgl3⟩ := own_form Hgo.out (by omega)
              simp only [Value.slice.injEq, true_and] at e
              obtain ⟨rfl, rfl⟩ := e
              have hgc : ∀ w9, Below w3.heap.size w3 w9 → w9.cell? ⟨gb, i, none⟩ = some (.int .i64 (numOf is i : Int)) := fun w9 h9 => (h9.cell hgl3).trans (own_cell Hgo.out (Hgz.out i hik2))
              have hz : (zeroValue 3).run Try.prog wr = .ok (.int .i64 0) wr := by simp
              have hat := ht.at_ (is i)
              have hul2 : ub < wr.heap.size := Nat.lt_of_lt_of_le hul (Nat.le_trans hA3 hb6.size)
              have hgl4 : gb < wr.heap.size := Nat.lt_of_lt_of_le hgl3 hb6.size
              have hcnt := cntOf_le is i
              cases hφ : (cntOf is i).1 (is i) with
              | some c =>
                obtain ⟨e1, e2⟩ := cntOf_hit hφ
                rw [hφ] at hat
                simp only [Option.map_some] at hat
                have hgcw := hgc wr hb6
                rw [e2] at hgcw
                have hst9 : IsMapOf wr w3.heap.size m ∧ TellsI (cntOf is (i + 1)).1 m ∧ Value.int .i64 (((cntOf is i).2 : Int) + 1) = .int .i64 (((cntOf is (i + 1)).2 : Int) + 1) := by rw [e1]; exact ⟨hmp, ht, rfl⟩
                have Hst9 := Lib.hid hst9
                clear hst9 hφ e1 e2 hgc hb5 hmp0
                go_wp2_with (at_lookup; refine wpList_lookI rfl _ _ rfl Try.underlying35 hz Try.underlying3 rfl hmp ht.only _ rfl ⟨_, rfl⟩ _ hat ?_)
                go_roundg (k - (i + 1))
                case measure => omega
                case rel => exact ⟨i + 1, m, hik2, Nat.le_refl _, by go_num, Hst9.out.2.2, Hst9.out.1, Hst9.out.2.1, hb6⟩
              | none =>
                obtain ⟨e1, e2⟩ := cntOf_miss hφ
                rw [hφ] at hat
                simp only [Option.map_none] at hat
                have hgcw : ∀ w9, Below w3.heap.size w3 w9 → w9.cell? ⟨gb, i, none⟩ = some (.int .i64 (((cntOf is i).2 : Int) + 1)) := fun w9 h9 => by
                  rw [hgc w9 h9, e2]; rfl
                have hst9 : ∀ w9, (∀ m' : Value → Option Value, m' (.int .i64 ((is i : Int) + 1)) = some (.int .i64 (((cntOf is i).2 : Int) + 1)) → (∀ y, y ≠ .int .i64 ((is i : Int) + 1) → m' y = m y) → IsMapOf w9 w3.heap.size m') →
                    ∃ m9, IsMapOf w9 w3.heap.size m9 ∧ TellsI (cntOf is (i + 1)).1 m9 ∧ Value.int .i64 (((cntOf is i).2 : Int) + 1 + 1) = .int .i64 (((cntOf is (i + 1)).2 : Int) + 1) := fun w9 h9 => by
                  rw [e1]
                  exact ⟨withKey m _ _, h9 _ (withKey_at _ _ _) (withKey_ne _ _ _), ht.put (c := (cntOf is i).2 + 1) (withKey_at _ _ _) (withKey_ne _ _ _), rfl⟩
                have Hst9 := Lib.hid hst9
                have hcs : ((cntOf is i).2 : Int) ≤ 1000 := by omega
                have hto := ht.only
                have hb7 : ∀ w9, wr.grownBy w9 (some w3.heap.size) → Below w3.heap.size w3 w9 := fun w9 h9 => hb6.grown h9 hb6.size (fun x hx => by cases hx; exact Nat.le_refl _)
                clear hst9 hφ e1 e2 hgc hb5 hmp0 ht
                go_wp2_with (first
                  | (at_lookup; refine wpList_lookI rfl _ _ rfl Try.underlying35 hz Try.underlying3 rfl hmp hto _ rfl ⟨_, rfl⟩ _ hat ?_)
                  | (at_mapUpdate; refine wpList_storeI rfl _ _ _ rfl Try.underlying35 Try.underlying3 rfl hmp hto (.int .i64 ((is i : Int) + 1)) (.int .i64 (((cntOf is i).2 : Int) + 1)) rfl rfl ⟨_, rfl⟩ hat ?_; intro w6 hg6 hs6 hm6; have hc6 := hgcw w6 (hb7 w6 hg6)))
                go_roundg (k - (i + 1))
                case measure => omega
                case rel =>
                  obtain ⟨m9, x1, x2, x3⟩ := Hst9.out _ hm6
                  exact ⟨i + 1, m9, hik2, Nat.le_refl _, by go_num, x3, x1, x2, hb7 _ hg6⟩
            · obtain rfl : i = k := by omega
              have hb8 : Below w1.heap.size w1 (wr.alloc (.cells #[.int .i64 1, .int .i64 1] 3)) :=
                ((hb3.trans (hb4.mono hb3.size)).trans (hb6.mono (Nat.le_trans hb3.size hA3))).alloc (Nat.le_trans hb3.size (Nat.le_trans hA3 hb6.size)) _
              have own8 := ownsRow_of Hrows.out fun x _ hl => hb8.block x hl
              have hB8 : Below w.heap.size w (wr.alloc (.cells #[.int .i64 1, .int .i64 1] 3)) := hb1.trans (hb8.mono hb1.size)
              have hidx8 : IdxS (wr.alloc (.cells #[.int .i64 1, .int .i64 1] 3)) (.slice (some ⟨wr.heap.size, 0, none⟩) 2 2) 2 n (fun _ => 0) := by
                refine ⟨_, _, rfl, .inr ⟨_, rfl, by simp, fun j hj => ?_⟩, fun j _ => hn1⟩
                have hnew := (Blk.new wr #[.int .i64 1, .int .i64 1] 3).cell j
                rcases (by omega : j = 0 ∨ j = 1) with rfl | rfl
                · exact hnew
                · exact hnew
              have Hidx8 := Lib.hid hidx8
              clear hidx8 hmp ht
              go_wp2_with fail
              refine (added_any _ n cap g 2 xs D f _ (fun _ => 0) own8 (by omega) (fun i hi => (Hf.out i hi).older hb8) Hidx8.out (by omega)).mono ?_
              rintro e w9 ⟨gv, zs9, rfl, hgo9, hgz9, hb9⟩
              obtain ⟨g9, cap9, rfl, hl9⟩ := own_form hgo9 (by omega)
              have c0 := own_cell hgo9 (hgz9 0 (by omega))
              have c1 := own_cell hgo9 (hgz9 1 (by omega))
              have e0 : numOf (fun _ => 0) 0 = 1 := by simp [numOf, cntOf]
              have e1 : numOf (fun _ => 0) 1 = 1 := by simp [numOf, cntOf]
              rw [e0] at c0
              rw [e1] at c1
              clear hgo9 hgz9 own8 e0 e1
              go_wp2_with fail
              go_ret
              exact ⟨rfl, hB8.trans (hb9.mono hB8.size)⟩
#print axioms FnAdded_any
end Go.Proofs.Ytfilbgmbmlmdbaa
