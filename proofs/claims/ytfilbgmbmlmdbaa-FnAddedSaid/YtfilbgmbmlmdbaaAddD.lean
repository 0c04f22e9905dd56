/- Types added one after the other: their numbers. Nothing is claimed here. -/
import Derived.Test.YtfilbgmbmlmdbaaAddC
namespace Go.Proofs.Ytfilbgmbmlmdbaa
open Go.RowKit Go.MapKept

/-- A slice of numbers of types, from 1 on. -/
def IdxS (w : World) (v : Value) (q n : Nat) (is : Nat → Nat) : Prop :=
  ∃ a cap, v = .slice a q cap ∧ (q = 0 ∨ ∃ b, a = some ⟨b, 0, none⟩ ∧ b < w.heap.size ∧ ∀ j, j < q → w.cell? ⟨b, j, none⟩ = some (.int .i64 ((is j : Int) + 1))) ∧ ∀ j, j < q → is j < n
theorem IdxS.at_ {w w' : World} {v : Value} {q n : Nat} {is : Nat → Nat} (h : IdxS w v q n is) (hb : Below w.heap.size w w') {j : Nat} (hj : j < q) :
    ∃ b cap, v = .slice (some ⟨b, 0, none⟩) q cap ∧ b < w.heap.size ∧ w'.cell? ⟨b, j, none⟩ = some (.int .i64 ((is j : Int) + 1)) ∧ is j < n := by
  obtain ⟨a, cap, rfl, h, h2⟩ := h
  rcases h with rfl | ⟨b, rfl, hl, hc⟩
  · omega
  · exact ⟨b, cap, rfl, hl, (hb.cell hl).trans (hc j hj), h2 j hj⟩

theorem own_mono {w : World} {base base' : Nat} {e : TypeId} {size : Nat} {v : Value} {n : Nat} {xs : List Value} (h : w.ownsRow base e size v n xs) (hb : base' ≤ base) : w.ownsRow base' e size v n xs := by
  refine ⟨h.1, h.2.imp id ?_⟩
  rintro ⟨g, cap, cur, h1, h2, h3⟩
  exact ⟨g, cap, cur, h1, Nat.le_trans hb h2, h3⟩
/-- The numbers told so far, and the builder. -/
structure Adds (w2 : World) (lo bb mb n k : Nat) (is : Nat → Nat) (pt : Nat → TypeId) (ob : Nat → Nat) (gv tv : Value) (ys : List Value) (wr : World) : Prop where
  bld : Bld wr lo bb mb (cntOf is k).2 n tv (cntOf is k).1 pt ob
  own : wr.ownsRow lo 3 1 gv k ys
  has : ∀ j, j < k → ys[j]? = some (.int .i64 (numOf is j : Int))
  far : ∀ g, gv.ownBlock = some g → ¬ Bb bb mb tv g
  old : Below lo w2 wr
theorem Bld.lts {w : World} {lo bb mb c n : Nat} {tv : Value} {φ : Nat → Option Nat} {pt : Nat → TypeId} {ob : Nat → Nat} (h : Bld w lo bb mb c n tv φ pt ob) {g : Nat} (hg : Bb bb mb tv g) : g < w.heap.size := by
  obtain ⟨xs, ho⟩ := h.own
  obtain ⟨m, hm, _⟩ := h.mp
  rcases hg with rfl | rfl | hg
  · exact h.blk.lt
  · exact hm.lt
  · exact (ho.lt g hg).2
theorem Adds.start {w2 : World} {lo bb mb tb : Nat} (is : Nat → Nat) (pt : Nat → TypeId) (ob : Nat → Nat) (n : Nat) (hbk : Blk w2 bb #[.slice (some ⟨tb, 0, none⟩) 0 0, .map (some mb), .pointer none] 111) (htb : Blk w2 tb #[] 48)
    (hmp : IsMapOf w2 mb (fun _ => none)) (l1 : lo ≤ bb) (l2 : lo ≤ mb) (l3 : lo ≤ tb) (hne : bb ≠ tb) : Adds w2 lo bb mb n 0 is pt ob (.slice none 0 0) (.slice (some ⟨tb, 0, none⟩) 0 0) [] w2 := by
  have hno : ∀ x c t, Blk w2 x c t → x ≠ mb := fun x c t hx h => by
    obtain ⟨es, clock, hm, _⟩ := hmp
    unfold Blk at hx
    rw [h, hm] at hx
    cases hx
  exact ⟨⟨hbk, ⟨[], rfl, .inr ⟨tb, 0, #[], rfl, l3, htb, Nat.le_refl _, Nat.zero_le _, rfl, rfl⟩⟩, ⟨_, hmp, Tells.start _ _ _⟩, ⟨l1, l2⟩, hno _ _ _ hbk, fun h => hne (Option.some.inj h).symm, fun h => hno _ _ _ htb (Option.some.inj h), ⟨_, _, rfl⟩⟩,
    World.ownsRow_nil _ _ _ _, fun j h => absurd h (Nat.not_lt_zero j), (fun x h => by cases h), Below.refl _ _⟩
/-- A call of Add and an append later. -/
theorem Adds.step {w2 wr wa w3 w4 : World} {lo bb mb n k : Nat} {is : Nat → Nat} {pt : Nat → TypeId} {ob : Nat → Nat} {gv tv tv' : Value} {ys : List Value} {g cap : Nat} {c : Array Value} {t : TypeId} (st : Adds w2 lo bb mb n k is pt ob gv tv ys wr)
    (ha : Below wr.heap.size wr wa) (hlo : lo ≤ wr.heap.size) (hb : Bld w3 lo bb mb (cntOf is (k + 1)).2 n tv' (cntOf is (k + 1)).1 pt ob) (h3 : Below lo wa w3)
    (htv : tv'.ownBlock = tv.ownBlock ∨ ∀ x, tv'.ownBlock = some x → wa.heap.size ≤ x) (hap : Appended (w3.alloc (.cells c t)) lo 3 1 gv k 1 ys [.int .i64 (numOf is k : Int)] g cap w4) :
    Adds w2 lo bb mb n (k + 1) is pt ob (.slice (some ⟨g, 0, none⟩) (k + 1) cap) tv' (ys ++ [.int .i64 (numOf is k : Int)]) w4 := by
  obtain ⟨p1, p2, p3, p4⟩ := hap
  have hgb : ∀ x, gv.ownBlock = some x → ¬ Bb bb mb tv' x := fun x hx hB => by
    rcases hB with e | e | e
    · exact st.far x hx (.inl e)
    · exact st.far x hx (.inr (.inl e))
    · rcases htv with h | h
      · exact st.far x hx (.inr (.inr (h ▸ e)))
      · have := h x e; have := (st.own.lt x hx).2; have := ha.size; omega
  refine ⟨hb.kept fun x hx hB => ?_, p1, fun j hj => ?_, fun x hx hB => ?_, ?_⟩
  · exact (p2.block x (by simp; omega) (fun e => hgb x e.symm hB)).trans (Below.heap_alloc w3 _ x hx)
  · have hl := st.own.1
    by_cases hjk : j < k
    · rw [List.getElem?_append_left (by omega)]; exact st.has j hjk
    · obtain rfl : j = k := by omega
      rw [List.getElem?_append_right (by omega)]
      have e : j - ys.length = 0 := by omega
      rw [e]; rfl
  · have hxg : x = g := by simpa [Value.ownBlock] using hx.symm
    subst hxg
    rcases p3 with h | h
    · exact hgb x h hB
    · have := hb.lts hB; simp at h; omega
  · have hs3 : lo ≤ w3.heap.size := by have := h3.size; have := ha.size; omega
    exact (((st.old.trans (ha.mono hlo)).trans h3).alloc hs3 _).grown p2 (by simp; omega) (fun x hx => (st.own.lt x hx).1)
/-- Behind a call of Add the numbers told so far stand. -/
theorem Adds.own3 {w2 wr wa w3 : World} {lo bb mb n k : Nat} {is : Nat → Nat} {pt : Nat → TypeId} {ob : Nat → Nat} {gv tv : Value} {ys : List Value} (st : Adds w2 lo bb mb n k is pt ob gv tv ys wr)
    (ha : Below wr.heap.size wr wa) (h3o : ∀ x, x < wa.heap.size → ¬ Bb bb mb tv x → w3.heap[x]? = wa.heap[x]?) : w3.ownsRow lo 3 1 gv k ys :=
  ownsRow_of st.own fun x hx hl => (h3o x (Nat.lt_of_lt_of_le hl ha.size) (st.far x hx)).trans (ha.block x hl)

set_option maxRecDepth 100000 in
set_option maxHeartbeats 4000000 in
theorem added_any (w : World) (n cap g q : Nat) (xs : List Value) (Dx : Nat → Prop) (f : Nat → RowD) (ov : Value) (is : Nat → Nat) (ho : w.ownsRow 0 28 8 (.slice (some ⟨g, 0, none⟩) n cap) n xs) (hn : n ≤ 1000000) (hf : ∀ i, i < n → FitsD w Dx xs n i (f i)) (hv : IdxS w ov q n is) (hq : q ≤ 100) :
    Calls Try.prog 7 #[.slice (some ⟨g, 0, none⟩) n cap, ov] w fun e w' => ∃ gv ys, e = .returned (.tuple #[gv, .bool true]) ∧ w'.ownsRow w.heap.size 3 1 gv q ys ∧ (∀ j, j < q → ys[j]? = some (.int .i64 (numOf is j : Int))) ∧ Below w.heap.size w w' := by
  obtain ⟨oa, ocap, hov⟩ : ∃ oa ocap, ov = .slice oa q ocap := by obtain ⟨a, c, h, _⟩ := hv; exact ⟨a, c, h⟩
  rw [hov]
  go_enter Try.func7, Try.ntmps7
  go_wp2_with fail
  refine (build_any w n cap g xs Dx f ho hn hf).mono ?_
  rintro e w1 ⟨og, oc, lo0, os, pt, ob, rfl, stb⟩
  have hk1 := stb.outs.keys
  have hold1 := stb.old
  clear stb
  go_wp2_with fail
  refine (newBuilder_any w1).mono ?_
  rintro e w2 ⟨bb, mb, tb, rfl, hbk, htb, hmp, l1, l2, l3, hne, hb2⟩
  go_wp2_with fail
  have hst := Adds.start is pt ob n hbk htb hmp l1 l2 l3 hne
  clear hbk htb hmp hne l1 l2 l3
  go_loopg [10, 31] q (fun gk s10 s31 wr => ∃ k tv ys, k ≤ q ∧ q - k ≤ gk ∧ s31 = .int .i64 (k : Nat) ∧ Adds w2 w1.heap.size bb mb n k is pt ob s10 tv ys wr)
  case atStart => exact ⟨0, _, _, Nat.zero_le _, Nat.le_refl _, rfl, hst⟩
  case round =>
    obtain ⟨k, tv, ys, hkq, hgk, rfl, st⟩ := hrel
    have hwr : Below w.heap.size w wr := (hold1.trans ((hb2.mono hold1.size))).trans (st.old.mono hold1.size)
    by_cases hlt : k < q
    · obtain ⟨b, cap', e, hbl, hc, hin⟩ := hv.at_ hwr hlt
      rw [hov] at e
      simp only [Value.slice.injEq, true_and] at e
      obtain ⟨rfl, rfl⟩ := e
      have hKr := (hk1.old hb2).old st.old
      have hat := hKr.at_ _ hin
      have i1 : ¬ ((is k : Int) + 1) < 0 := by omega
      have i2 : ¬ (n : Int) < (is k : Int) + 1 := by omega
      have i3 : (0 : Int) < (is k : Int) + 1 := by omega
      have i4 : (is k : Int) ≤ 1000000 := by omega
      have hbl2 : b < wr.heap.size := Nat.lt_of_lt_of_le hbl hwr.size
      have hogl : og < wr.heap.size := Nat.lt_of_lt_of_le hk1.lt.1 (Nat.le_trans hb2.size st.old.size)
      go_wp2_with fail
      have hal : Below wr.heap.size wr (wr.alloc (.cells #[] 70)) := (Below.refl _ _).alloc (Nat.le_refl _) _
      have hlo : w1.heap.size ≤ wr.heap.size := Nat.le_trans hb2.size st.old.size
      refine (add_any (hKr.old (hal.mono hlo)) (st.bld.kept fun x hx hB => hal.block x hx) hin (by omega)).mono ?_
      rintro e w3 ⟨tv', rfl, hb3, h3, h3o, htv⟩
      have hnum := numOf_le is k
      have hnk : (numOf is k : Int) ≤ 1000 := by omega
      have hown3 := st.own3 hal h3o
      have hstep := fun g cap w4 (c : Array Value) t hap => st.step (c := c) (t := t) (g := g) (cap := cap) (w4 := w4) hal hlo hb3 h3 htv hap
      go_wp2_with (at_builtin; refine wpList_app intElem (.tmp 73) (.tmp 76) rfl rfl w1.heap.size _ k ys rfl (hown3.alloc _) w3.heap.size 1 1 _ rfl (Blk.new _ _ _) rfl rfl (by decide) ?_ ?ka1 ?ka2 ?ka3; intro g cap w4 ha)
      case ka1 => omega
      case ka2 => unfold maxLen; omega
      case ka3 => have := h3.size; have := hal.size; simp; omega
      go_roundg (q - (k + 1))
      case measure => omega
      case rel => exact ⟨k + 1, _, _, hlt, Nat.le_refl _, by go_num, hstep _ _ _ _ _ ha⟩
    · obtain rfl : k = q := by omega
      go_wp2_with fail
      go_ret2
      exact ⟨_, ys, rfl, own_mono st.own hold1.size, st.has, hwr⟩
#print axioms added_any
end Go.Proofs.Ytfilbgmbmlmdbaa
