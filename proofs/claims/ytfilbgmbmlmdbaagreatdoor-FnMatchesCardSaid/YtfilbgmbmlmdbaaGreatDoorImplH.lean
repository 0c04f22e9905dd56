/- The thin package's own building of types: its contract. -/
import Derived.Test.YtfilbgmbmlmdbaaGreatDoorImplG
import Derived.Test.YtfilbgmbmlmdbaaGreatDoorOrd
import Derived.Deep.DeepCutAuto
namespace Go.Proofs.YtfilbgmbmlmdbaaGreatDoor
open Go.RowKit

theorem typesInfo : (Tryz.prog.info? 77).map (fun i => (i.zero, i.size, i.bytes)) = some (some .nilIface, 1, 16) := by kernel_rfl
/-- What build gives. -/
def Built (w : World) (n : Nat) (f : Nat → RowD) (e : Ending) (w' : World) : Prop :=
  ∃ og oc lo os pt ob, e = .returned (.tuple #[.slice (some ⟨og, 0, none⟩) n n, .bool true]) ∧ B2 w n f og oc lo os pt ob n w'

section
variable (w : World) (k : Int) (nm : ByteArray) (sz en fl : Int) (of ix : Nat) (mv : Value) (q n cap og oc b lo : Nat) (ys : List Value) (pt : Nat → TypeId) (ob : Nat → Nat) (ha : AtSt w n cap og oc pt ob) (hn : n ≤ 1000000) (hlo : lo ≤ w.heap.size)
include ha hn hlo in
theorem fill_all {w0 : World} {D : Nat → Prop} {xs : List Value} {i : Nat} {mv0 : Value} {p : TypeId} {cs : Array Value} {ty : TypeId} (hf : RowFits w0 D xs n i k nm sz en fl of ix mv0 q ys) (hobj : ObjC nm sz en fl k p cs ty) (hb : Blk w b cs ty) (hbo : b ≠ og ∧ b ≠ oc)
    (ho : w.ownsRow 0 74 5 mv q ys) (hmb : mv.ownBlock ≠ some b) :
    Calls Tryz.prog 51 #[.iface p (.pointer (some ⟨b, 0, none⟩)), .agg #[.int .i64 k, .string nm, .int .i64 sz, .int .i64 en, .int .i64 fl, .int .i64 of, .int .i64 ix, mv], .func (.func 50) #[] #[.pointer (some ⟨oc, 0, none⟩)]] w
      fun e w' => e = .returned (.tuple #[]) ∧ FillPost w b lo ty pt ob nm sz en fl of ix q ys k w' := by
  have hmem : k = 4 ∨ k = 5 → ∀ j, j < q → ∃ (nm : ByteArray) (o : Nat) (a b v : Int), PRow ys j nm (.int .i64 o) a b v ∧ (1 ≤ o ∧ o ≤ n) ∧ (0 ≤ a ∧ a < 4294967296) ∧ (0 ≤ b ∧ b < 4294967296) := fun hk j hj => by
    obtain ⟨nm, o, a, b, v, h1, h2, h3, h4⟩ := hf.mem j hj
    exact ⟨nm, o, a, b, v, h1, ⟨hf.some2 hk j hj _ _ _ _ _ h1, h2⟩, h3, h4⟩
  cases hobj with
  | int => exact fill_int w nm sz en fl of ix mv q oc b lo ys pt ob hb
  | ptr => exact fill_ptr w nm sz en fl of ix mv q n cap og oc b lo ys pt ob ha hn hf.hof hb (hf.some1.1 (.inl rfl))
  | arr => exact fill_arr w nm sz en fl of ix mv q n cap og oc b lo ys pt ob ha hn hlo hf.hof hf.hix hbo hb (hf.some1.1 (.inr (.inl rfl))) (hf.some1.2 rfl)
  | str => exact fill_str w nm sz en fl of ix mv q n cap og oc b lo ys pt ob ha hn hlo hf.hof hf.hix hbo hb ho hf.few (hmem (.inl rfl))
  | uni => exact fill_uni w nm sz en fl of ix mv q n cap og oc b lo ys pt ob ha hn hlo hf.hof hf.hix hbo hb ho hf.few (hmem (.inr rfl))
  | enm => exact fill_enm w nm sz en fl of ix mv q n oc b lo ys pt ob hlo hb ho hf.few hmb hf.mem
  | tdf => exact fill_tdf w nm sz en fl of ix mv q n cap og oc b lo ys pt ob ha hn hf.hof hb (hf.some1.1 (.inr (.inr (.inl rfl))))
  | cst => exact fill_cst w nm sz en fl of ix mv q n cap og oc b lo ys pt ob ha hn hf.hof hb (hf.some1.1 (.inr (.inr (.inr rfl))))
end

set_option linter.unusedSimpArgs false in
set_option maxRecDepth 100000 in
set_option maxHeartbeats 4000000 in
theorem build_any (w : World) (n cap g : Nat) (xs : List Value) (Dx : Nat → Prop) (f : Nat → RowD) (ho : w.ownsRow 0 72 8 (.slice (some ⟨g, 0, none⟩) n cap) n xs) (hn : n ≤ 1000000) (hf : ∀ i, i < n → FitsD w Dx xs n i (f i)) :
    Calls Tryz.prog 43 #[.slice (some ⟨g, 0, none⟩) n cap] w (Built w n f) := by
  obtain ⟨ti, hti, hz0, hz1, hz2⟩ := info_parts typesInfo
  have hgl := (ho.lt g rfl).2
  have hks := kinds_at ho hf
  have hn63 : n ≤ maxLen := by unfold maxLen; omega
  have hby : ti.bytes * n ≤ 281474976710656 := by rw [hz2]; omega
  go_enter Tryz.func43, Tryz.ntmps43
  go_wp2_with (at_make; refine wpList_make_full _ rfl _ _ _ rfl w.heap.size 77 ti .nilIface 1 Tryz.underlying78 hti hz0 hz1 .i64 .i64 _ _ n rfl rfl rfl rfl hby hn63 (Nat.le_refl _) ?_; intro w1 hown1 hgr1)
  have hb1 : Below w.heap.size w w1 := (Below.refl _ _).grown hgr1 (Nat.le_refl _) (fun k hk => by cases hk)
  have hogl := (hown1.lt _ rfl).2
  have hocne : w1.heap.size ≠ w.heap.size := fun e => by rw [e] at hogl; exact Nat.lt_irrefl _ hogl
  have hst : B1 w n f w.heap.size w1.heap.size _ (fun _ => 0) (fun _ => 0) 0 (w1.alloc (.cells #[.slice (some ⟨w.heap.size, 0, none⟩) n n] 78)) :=
    ⟨hb1.alloc hb1.size _, Blk.new _ _ _, hown1.alloc _, fun i h => by omega, fun i h => by omega, fun i j _ h => by omega, hb1.size, hocne⟩
  go_loopg [17] n (fun gk s17 wr => ∃ k os pt ob, k ≤ n ∧ n - k ≤ gk ∧ s17 = .int .i64 (k : Nat) ∧ B1 w n f w.heap.size w1.heap.size os pt ob k wr)
  case atStart => exact ⟨0, _, _, _, Nat.zero_le _, Nat.le_refl _, rfl, hst⟩
  case round =>
    obtain ⟨k, os, pt, ob, hk, hgk, rfl, st⟩ := hrel
    by_cases hlt : k < n
    · have hfk := hf k hlt
      have hor := ownsRow_of ho fun x _ hl => st.old.block x hl
      obtain ⟨q0, q1, q2, q3, q4, q5, q6, q7⟩ := lrow_cells hor hfk.row
      obtain ⟨ma, mcap, hmv⟩ := own_slice hfk.own
      rw [hmv] at q7
      have hgl2 : g < wr.heap.size := Nat.lt_of_lt_of_le hgl st.old.size
      have hocl : w1.heap.size < wr.heap.size := st.var.lt
      go_upto_region 5 with fail
      have hb5 : Below wr.heap.size wr (wr.alloc (.cells #[.int .i64 (f k).k, .string (f k).nm, .int .i64 (f k).sz, .int .i64 (f k).en, .int .i64 (f k).fl, .int .i64 (f k).of, .int .i64 (f k).ix, .slice ma (f k).q mcap] 72)) := (Below.refl _ _).alloc (Nat.le_refl _) _
      have hr5 : Blk (wr.alloc (.cells #[.int .i64 (f k).k, .string (f k).nm, .int .i64 (f k).sz, .int .i64 (f k).en, .int .i64 (f k).fl, .int .i64 (f k).of, .int .i64 (f k).ix, .slice ma (f k).q mcap] 72)) wr.heap.size #[.int .i64 (f k).k, .string (f k).nm, .int .i64 (f k).sz, .int .i64 (f k).en, .int .i64 (f k).fl, .int .i64 (f k).of, .int .i64 (f k).ix, .slice ma (f k).q mcap] 72 := Blk.new _ _ _
      have hw5 : Below w.heap.size w (wr.alloc (.cells #[.int .i64 (f k).k, .string (f k).nm, .int .i64 (f k).sz, .int .i64 (f k).en, .int .i64 (f k).fl, .int .i64 (f k).of, .int .i64 (f k).ix, .slice ma (f k).q mcap] 72)) := st.old.trans (hb5.mono st.old.size)
      have hm5 : (wr.alloc (.cells #[.int .i64 (f k).k, .string (f k).nm, .int .i64 (f k).sz, .int .i64 (f k).en, .int .i64 (f k).fl, .int .i64 (f k).of, .int .i64 (f k).ix, .slice ma (f k).q mcap] 72)).ownsRow 0 74 5 (.slice ma (f k).q mcap) (f k).q (f k).ys := ownsRow_of (hmv ▸ hfk.own) fun x _ hl => hw5.block x hl
      obtain ⟨c0, c1, c2, c3, c4, c5, c6, c7⟩ := hr5.eight
      have hk19 : 1 ≤ (f k).k ∧ (f k).k ≤ 19 := by have := hfk.kind; unfold KindOk at this; omega
      go_wp2_with fail
      refine (fits_any _ (f k).k (f k).nm (f k).sz (f k).en (f k).fl (f k).of (f k).ix _ (f k).q n cap g (f k).ys hn (Nat.lt_of_lt_of_le hgl hw5.size) (hks.old hgl hw5) hk19 hfk.hsz ⟨by rcases hfk.hen with h | h <;> omega, by rcases hfk.hen with h | h <;> omega⟩ ⟨by rcases hfk.hfl with h | h <;> omega, by rcases hfk.hfl with h | h <;> omega⟩ hfk.hof hfk.hix hm5 hfk.few hfk.mem).mono ?_
      rintro e w6 ⟨rfl, hb6⟩
      have st6 : B1 w n f w.heap.size w1.heap.size os pt ob k w6.drew := (st.new (hb5.trans (hb6.mono hb5.size))).new (Below.refl _ _).drew
      have hp6 : Blk w6.drew wr.heap.size #[.int .i64 (f k).k, .string (f k).nm, .int .i64 (f k).sz, .int .i64 (f k).en, .int .i64 (f k).fl, .int .i64 (f k).of, .int .i64 (f k).ix, .slice ma (f k).q mcap] 72 := (hr5.old hb6).drew
      have hv6 := st6.var
      obtain ⟨u0, hosk⟩ : ∃ u0, os[k]? = some u0 := ⟨_, List.getElem?_eq_getElem (by have := st.own.1; omega)⟩
      have hSof : ∀ w', Blk w' w1.heap.size #[.slice (some ⟨w.heap.size, 0, none⟩) n n] 78 → Blk w' wr.heap.size #[.int .i64 (f k).k, .string (f k).nm, .int .i64 (f k).sz, .int .i64 (f k).en, .int .i64 (f k).fl, .int .i64 (f k).of, .int .i64 (f k).ix, .slice ma (f k).q mcap] 72 → w'.cell? ⟨w1.heap.size, 0, none⟩ = some (.slice (some ⟨w.heap.size, 0, none⟩) n n) ∧ w'.cell? ⟨wr.heap.size, 0, none⟩ = some (.int .i64 (f k).k) ∧ w'.cell? ⟨wr.heap.size, 1, none⟩ = some (.string (f k).nm) ∧ w'.cell? ⟨wr.heap.size, 2, none⟩ = some (.int .i64 (f k).sz) ∧ w'.cell? ⟨wr.heap.size, 3, none⟩ = some (.int .i64 (f k).en) ∧ w'.cell? ⟨wr.heap.size, 4, none⟩ = some (.int .i64 (f k).fl) ∧ w'.cell? ⟨wr.heap.size, 5, none⟩ = some (.int .i64 (f k).of) ∧ w'.cell? ⟨wr.heap.size, 6, none⟩ = some (.int .i64 (f k).ix) ∧ w'.cell? ⟨wr.heap.size, 7, none⟩ = some (.slice ma (f k).q mcap) :=
        fun w' h1 h2 => ⟨h1.cell 0, h2.cell 0, h2.cell 1, h2.cell 2, h2.cell 3, h2.cell 4, h2.cell 5, h2.cell 6, h2.cell 7⟩
      clear c0 c1 c2 c3 c4 c5 c6 c7
      go_upto_region 7 with fail
      refine AnyBut.start (S := (fun w' => w'.cell? ⟨w1.heap.size, 0, none⟩ = some (.slice (some ⟨w.heap.size, 0, none⟩) n n) ∧ w'.cell? ⟨wr.heap.size, 0, none⟩ = some (.int .i64 (f k).k) ∧ w'.cell? ⟨wr.heap.size, 1, none⟩ = some (.string (f k).nm) ∧ w'.cell? ⟨wr.heap.size, 2, none⟩ = some (.int .i64 (f k).sz) ∧ w'.cell? ⟨wr.heap.size, 3, none⟩ = some (.int .i64 (f k).en) ∧ w'.cell? ⟨wr.heap.size, 4, none⟩ = some (.int .i64 (f k).fl) ∧ w'.cell? ⟨wr.heap.size, 5, none⟩ = some (.int .i64 (f k).of) ∧ w'.cell? ⟨wr.heap.size, 6, none⟩ = some (.int .i64 (f k).ix) ∧ w'.cell? ⟨wr.heap.size, 7, none⟩ = some (.slice ma (f k).q mcap))) (t := 5) (by as_aux_lemma => kernel_rfl) (hSof _ hv6 hp6) (fun hHeld => ?_)
      refine AnyBut.take (i := 0) (v := ?_) rfl (by as_aux_lemma => kernel_rfl) (by as_aux_lemma => kernel_rfl) (by as_aux_lemma => kernel_rfl) (by as_aux_lemma => kernel_rfl) (fun _ _ _ h => h) hHeld (by rfl) ?_ ?_
      rotate_left
      focus (intro w hSw; (try dsimp only at hSw); go_simp <;> with_reducible rfl)
      try simp only [Act.put, List.setIfInBounds_toArray, List.set_cons_zero, List.set_cons_succ]
      refine AnyBut.take (i := 1) (v := ?_) rfl (by as_aux_lemma => kernel_rfl) (by as_aux_lemma => kernel_rfl) (by as_aux_lemma => kernel_rfl) (by as_aux_lemma => kernel_rfl) (fun _ _ _ h => h) hHeld (by rfl) ?_ ?_
      rotate_left
      focus (intro w hSw; (try dsimp only at hSw); go_simp <;> with_reducible rfl)
      try simp only [Act.put, List.setIfInBounds_toArray, List.set_cons_zero, List.set_cons_succ]
      refine AnyBut.take (i := 2) (v := ?_) rfl (by as_aux_lemma => kernel_rfl) (by as_aux_lemma => kernel_rfl) (by as_aux_lemma => kernel_rfl) (by as_aux_lemma => kernel_rfl) (fun _ _ _ h => h) hHeld (by rfl) ?_ ?_
      rotate_left
      focus (intro w hSw; (try dsimp only at hSw); go_simp <;> with_reducible rfl)
      try simp only [Act.put, List.setIfInBounds_toArray, List.set_cons_zero, List.set_cons_succ]
      refine AnyBut.one (i := 3) (by as_aux_lemma => kernel_rfl) rfl (fun K hK => ?_)
      go_simp
      go_at_call 49
      refine (made_any _ (f k).k (f k).nm (f k).sz (f k).en (f k).fl (f k).of (f k).ix (.slice ma (f k).q mcap) hfk.kind hfk.hsz ⟨by rcases hfk.hen with h | h <;> omega, by rcases hfk.hen with h | h <;> omega⟩).mono ?_
      rintro e w9 ⟨b, p, cs, ty, rfl, hobj, hblk9, hblo, hb9⟩
      have hp9 := hp6.old hb9
      have hv9 := hv6.old hb9
      have hown9 : w9.ownsRow w.heap.size 77 1 (.slice (some ⟨w.heap.size, 0, none⟩) n n) n os := ownsRow_of (st6.own) fun x _ hl => hb9.block x hl
      have hcl9 := own_cell hown9 hosk
      have hfr9 := hown9.frozenAt k
      refine hK.out _ _ (hSof _ hv9 hp9) (fun hHeld => ?_)
      clear hK K
      try simp only [Act.put, List.setIfInBounds_toArray, List.set_cons_zero, List.set_cons_succ]
      refine AnyBut.take (i := 4) (v := ?_) rfl (by as_aux_lemma => kernel_rfl) (by as_aux_lemma => kernel_rfl) (by as_aux_lemma => kernel_rfl) (by as_aux_lemma => kernel_rfl) (fun _ _ _ h => h) hHeld (by rfl) ?_ ?_
      rotate_left
      focus (intro w hSw; (try dsimp only at hSw); go_simp <;> with_reducible rfl)
      try simp only [Act.put, List.setIfInBounds_toArray, List.set_cons_zero, List.set_cons_succ]
      refine AnyBut.last (by as_aux_lemma => kernel_rfl) rfl (by as_aux_lemma => kernel_rfl) (fun K hK => ?_)
      go_simp
      refine hK.out _ _ ?_
      clear hK K
      try simp only [Act.put, List.setIfInBounds_toArray, List.set_cons_zero, List.set_cons_succ]
      go_wp2_with fail
      go_roundg (n - (k + 1))
      case measure => omega
      case rel => exact ⟨k + 1, _, _, _, hlt, Nat.le_refl _, by go_num, st.push hlt ((hb5.trans (hb6.mono hb5.size)).trans ((Below.drew (Below.refl _ _)).trans (hb9.mono (Nat.le_trans hb5.size hb6.size)))) hobj hblk9 (Nat.le_trans (Nat.le_trans hb5.size hb6.size) hblo)⟩
    · obtain rfl : k = n := by omega
      obtain ⟨wA, rfl⟩ : ∃ wA : World, wA = wr := ⟨_, rfl⟩
      have st0 := B2.start st
      go_wp2_with fail
      go_loopg [35] k (fun gk s35 w2 => ∃ k2, k2 ≤ k ∧ k - k2 ≤ gk ∧ s35 = .int .i64 (k2 : Nat) ∧ B2 w k f w.heap.size w1.heap.size wA.heap.size os pt ob k2 w2)
      case atStart => exact ⟨0, Nat.zero_le _, Nat.le_refl _, rfl, st0⟩
      case round =>
        obtain ⟨k2, hk2, hgk2, rfl, st2⟩ := hrel
        obtain ⟨w2, rfl⟩ : ∃ w2 : World, w2 = wr := ⟨_, rfl⟩
        by_cases hlt2 : k2 < k
        · have hfk := hf k2 hlt2
          have hor := ownsRow_of ho fun x _ hl => st2.old.block x hl
          obtain ⟨q0, q1, q2, q3, q4, q5, q6, q7⟩ := lrow_cells hor hfk.row
          obtain ⟨ma, mcap, hmv⟩ := own_slice hfk.own
          rw [hmv] at q7
          have hgl3 : g < w2.heap.size := Nat.lt_of_lt_of_le hgl st2.old.size
          have hocl3 : w1.heap.size < w2.heap.size := st2.var.lt
          go_upto_region 13 with fail
          have hb5 : Below w2.heap.size w2 (w2.alloc (.cells #[.int .i64 (f k2).k, .string (f k2).nm, .int .i64 (f k2).sz, .int .i64 (f k2).en, .int .i64 (f k2).fl, .int .i64 (f k2).of, .int .i64 (f k2).ix, .slice ma (f k2).q mcap] 72)).drew := ((Below.refl _ _).alloc (Nat.le_refl _) _).drew
          have hp6 : Blk (w2.alloc (.cells #[.int .i64 (f k2).k, .string (f k2).nm, .int .i64 (f k2).sz, .int .i64 (f k2).en, .int .i64 (f k2).fl, .int .i64 (f k2).of, .int .i64 (f k2).ix, .slice ma (f k2).q mcap] 72)).drew w2.heap.size #[.int .i64 (f k2).k, .string (f k2).nm, .int .i64 (f k2).sz, .int .i64 (f k2).en, .int .i64 (f k2).fl, .int .i64 (f k2).of, .int .i64 (f k2).ix, .slice ma (f k2).q mcap] 72 := (Blk.new _ _ _).drew
          have st6 := st2.new hb5
          have hw5 : Below w.heap.size w (w2.alloc (.cells #[.int .i64 (f k2).k, .string (f k2).nm, .int .i64 (f k2).sz, .int .i64 (f k2).en, .int .i64 (f k2).fl, .int .i64 (f k2).of, .int .i64 (f k2).ix, .slice ma (f k2).q mcap] 72)).drew := st6.old
          have hm6 : (w2.alloc (.cells #[.int .i64 (f k2).k, .string (f k2).nm, .int .i64 (f k2).sz, .int .i64 (f k2).en, .int .i64 (f k2).fl, .int .i64 (f k2).of, .int .i64 (f k2).ix, .slice ma (f k2).q mcap] 72)).drew.ownsRow 0 74 5 (.slice ma (f k2).q mcap) (f k2).q (f k2).ys := ownsRow_of (hmv ▸ hfk.own) fun x _ hl => hw5.block x hl
          have hv6 := st6.var
          have hog6 := own_cell st6.own (st6.has k2 hlt2)
          obtain ⟨cs6, ty6, hobj6, hblk6⟩ := st6.obj k2 (Nat.le_refl _) hlt2
          have hSof : ∀ w', Blk w' w1.heap.size #[.slice (some ⟨w.heap.size, 0, none⟩) k k] 78 → w'.cell? ⟨w.heap.size, k2, none⟩ = some (.iface (pt (k2 + 1)) (.pointer (some ⟨ob (k2 + 1), 0, none⟩))) → Blk w' w2.heap.size #[.int .i64 (f k2).k, .string (f k2).nm, .int .i64 (f k2).sz, .int .i64 (f k2).en, .int .i64 (f k2).fl, .int .i64 (f k2).of, .int .i64 (f k2).ix, .slice ma (f k2).q mcap] 72 → w'.cell? ⟨w1.heap.size, 0, none⟩ = some (.slice (some ⟨w.heap.size, 0, none⟩) k k) ∧ w'.cell? ⟨w.heap.size, k2, none⟩ = some (.iface (pt (k2 + 1)) (.pointer (some ⟨ob (k2 + 1), 0, none⟩))) ∧ w'.cell? ⟨w2.heap.size, 0, none⟩ = some (.int .i64 (f k2).k) ∧ w'.cell? ⟨w2.heap.size, 1, none⟩ = some (.string (f k2).nm) ∧ w'.cell? ⟨w2.heap.size, 2, none⟩ = some (.int .i64 (f k2).sz) ∧ w'.cell? ⟨w2.heap.size, 3, none⟩ = some (.int .i64 (f k2).en) ∧ w'.cell? ⟨w2.heap.size, 4, none⟩ = some (.int .i64 (f k2).fl) ∧ w'.cell? ⟨w2.heap.size, 5, none⟩ = some (.int .i64 (f k2).of) ∧ w'.cell? ⟨w2.heap.size, 6, none⟩ = some (.int .i64 (f k2).ix) ∧ w'.cell? ⟨w2.heap.size, 7, none⟩ = some (.slice ma (f k2).q mcap) :=
            fun w' h1 h0 h2 => ⟨h1.cell 0, h0, h2.cell 0, h2.cell 1, h2.cell 2, h2.cell 3, h2.cell 4, h2.cell 5, h2.cell 6, h2.cell 7⟩
          refine AnyBut.start (S := (fun w' => w'.cell? ⟨w1.heap.size, 0, none⟩ = some (.slice (some ⟨w.heap.size, 0, none⟩) k k) ∧ w'.cell? ⟨w.heap.size, k2, none⟩ = some (.iface (pt (k2 + 1)) (.pointer (some ⟨ob (k2 + 1), 0, none⟩))) ∧ w'.cell? ⟨w2.heap.size, 0, none⟩ = some (.int .i64 (f k2).k) ∧ w'.cell? ⟨w2.heap.size, 1, none⟩ = some (.string (f k2).nm) ∧ w'.cell? ⟨w2.heap.size, 2, none⟩ = some (.int .i64 (f k2).sz) ∧ w'.cell? ⟨w2.heap.size, 3, none⟩ = some (.int .i64 (f k2).en) ∧ w'.cell? ⟨w2.heap.size, 4, none⟩ = some (.int .i64 (f k2).fl) ∧ w'.cell? ⟨w2.heap.size, 5, none⟩ = some (.int .i64 (f k2).of) ∧ w'.cell? ⟨w2.heap.size, 6, none⟩ = some (.int .i64 (f k2).ix) ∧ w'.cell? ⟨w2.heap.size, 7, none⟩ = some (.slice ma (f k2).q mcap))) (t := 6) (by as_aux_lemma => kernel_rfl) (hSof _ hv6 hog6 hp6) (fun hHeld => ?_)
          refine AnyBut.take (i := 0) (v := ?_) rfl (by as_aux_lemma => kernel_rfl) (by as_aux_lemma => kernel_rfl) (by as_aux_lemma => kernel_rfl) (by as_aux_lemma => kernel_rfl) (fun _ _ _ h => h) hHeld (by rfl) ?_ ?_
          rotate_left
          focus (intro w hSw; (try dsimp only at hSw); go_simp <;> with_reducible rfl)
          try simp only [Act.put, List.setIfInBounds_toArray, List.set_cons_zero, List.set_cons_succ]
          refine AnyBut.take (i := 1) (v := ?_) rfl (by as_aux_lemma => kernel_rfl) (by as_aux_lemma => kernel_rfl) (by as_aux_lemma => kernel_rfl) (by as_aux_lemma => kernel_rfl) (fun _ _ _ h => h) hHeld (by rfl) ?_ ?_
          rotate_left
          focus (intro w hSw; (try dsimp only at hSw); go_simp <;> with_reducible rfl)
          try simp only [Act.put, List.setIfInBounds_toArray, List.set_cons_zero, List.set_cons_succ]
          refine AnyBut.take (i := 2) (v := ?_) rfl (by as_aux_lemma => kernel_rfl) (by as_aux_lemma => kernel_rfl) (by as_aux_lemma => kernel_rfl) (by as_aux_lemma => kernel_rfl) (fun _ _ _ h => h) hHeld (by rfl) ?_ ?_
          rotate_left
          focus (intro w hSw; (try dsimp only at hSw); go_simp <;> with_reducible rfl)
          try simp only [Act.put, List.setIfInBounds_toArray, List.set_cons_zero, List.set_cons_succ]
          refine AnyBut.take (i := 3) (v := ?_) rfl (by as_aux_lemma => kernel_rfl) (by as_aux_lemma => kernel_rfl) (by as_aux_lemma => kernel_rfl) (by as_aux_lemma => kernel_rfl) (fun _ _ _ h => h) hHeld (by rfl) ?_ ?_
          rotate_left
          focus (intro w hSw; (try dsimp only at hSw); go_simp <;> with_reducible rfl)
          try simp only [Act.put, List.setIfInBounds_toArray, List.set_cons_zero, List.set_cons_succ]
          refine AnyBut.take (i := 4) (v := ?_) rfl (by as_aux_lemma => kernel_rfl) (by as_aux_lemma => kernel_rfl) (by as_aux_lemma => kernel_rfl) (by as_aux_lemma => kernel_rfl) (fun _ _ _ h => h) hHeld (by rfl) ?_ ?_
          rotate_left
          focus (intro w hSw; (try dsimp only at hSw); go_simp <;> with_reducible rfl)
          try simp only [Act.put, List.setIfInBounds_toArray, List.set_cons_zero, List.set_cons_succ]
          refine AnyBut.take (i := 5) (v := ?_) rfl (by as_aux_lemma => kernel_rfl) (by as_aux_lemma => kernel_rfl) (by as_aux_lemma => kernel_rfl) (by as_aux_lemma => kernel_rfl) (fun _ _ _ h => h) hHeld (by rfl) ?_ ?_
          rotate_left
          focus (intro w hSw; (try dsimp only at hSw); go_simp <;> with_reducible rfl)
          try simp only [Act.put, List.setIfInBounds_toArray, List.set_cons_zero, List.set_cons_succ]
          refine AnyBut.last (by as_aux_lemma => kernel_rfl) rfl (by as_aux_lemma => kernel_rfl) (fun K hK => ?_)
          go_simp
          go_at_call 51
          refine (fill_all _ (f k2).k (f k2).nm (f k2).sz (f k2).en (f k2).fl (f k2).of (f k2).ix (.slice ma (f k2).q mcap) (f k2).q k k w.heap.size w1.heap.size (ob (k2 + 1)) wA.heap.size (f k2).ys pt ob st6.at_ hn st6.lo.1 hfk hobj6 hblk6 (st6.far k2 hlt2).2.2 hm6 (fun x => by have := (hmv ▸ hfk.own).lt _ x; have := (st6.far k2 hlt2).1; omega)).mono ?_
          rintro e w9 ⟨rfl, hfp⟩
          refine hK.out _ _ ?_
          clear hK K
          go_wp2_with fail
          go_roundg (k - (k2 + 1))
          case measure => omega
          case rel => exact ⟨k2 + 1, hlt2, Nat.le_refl _, by go_num, st6.push hlt2 hobj6 hfp⟩
        · obtain rfl : k2 = k := by omega
          go_wp2_with fail
          go_loopg [50] k2 (fun gk s50 w3 => ∃ k3, k3 ≤ k2 ∧ k2 - k3 ≤ gk ∧ s50 = .int .i64 (k3 : Nat) ∧ B2 w k2 f w.heap.size w1.heap.size wA.heap.size os pt ob k2 w3)
          case atStart => exact ⟨0, Nat.zero_le _, Nat.le_refl _, rfl, st2⟩
          case round =>
            obtain ⟨k3, hk3, hgk3, rfl, st3⟩ := hrel
            obtain ⟨w3, rfl⟩ : ∃ w3 : World, w3 = wr := ⟨_, rfl⟩
            by_cases hlt3 : k3 < k2
            · have hfk := hf k3 hlt3
              have hor := ownsRow_of ho fun x _ hl => st3.old.block x hl
              obtain ⟨q0, q1, q2, q3, q4, q5, q6, q7⟩ := lrow_cells hor hfk.row
              obtain ⟨ma, mcap, hmv⟩ := own_slice hfk.own
              rw [hmv] at q7
              have hgl4 : g < w3.heap.size := Nat.lt_of_lt_of_le hgl st3.old.size
              have h17 : ((f k3).k == 17) = false := by have := hfk.kind; unfold KindOk at this; simp; omega
              go_upto_region 18 with fail
              go_quiet (fail)
              go_wp2_with fail
              go_roundg (k2 - (k3 + 1))
              case measure => omega
              case rel => exact ⟨k3 + 1, hlt3, Nat.le_refl _, by go_num, st3.new (below_drewN ((Below.refl _ _).alloc (Nat.le_refl _) _) _)⟩
            · have hv3 := st3.var.cell 0
              simp only [List.getElem?_toArray, List.getElem?_cons_zero] at hv3
              go_wp2_with fail
              go_ret2
              exact ⟨_, _, _, os, pt, ob, rfl, st3⟩
#print axioms build_any
end Go.Proofs.YtfilbgmbmlmdbaaGreatDoor
