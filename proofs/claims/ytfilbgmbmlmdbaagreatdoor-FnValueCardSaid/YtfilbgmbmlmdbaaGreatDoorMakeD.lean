/- Structs by numbers: the contract of structOf, from that of typeOf. -/
import Derived.Test.YtfilbgmbmlmdbaaGreatDoorMakeDa
import Derived.Test.YtfilbgmbmlmdbaaGreatDoorOrd
namespace Go.Proofs.YtfilbgmbmlmdbaaGreatDoor
open Go.RowKit

set_option linter.unusedSimpArgs false in
set_option maxRecDepth 100000 in
set_option maxHeartbeats 20000000 in
theorem structOf_any (d : Int) (hd : d = 0 ∨ d = 1) (F : Ty → Prop) (M : Nat) (hM : M ≤ 1000) (hF : ∀ t, F t → t.bytes ≤ M ∧ Flat t) (hT : TypeC d F) (hI : ∀ t, IntT t → F t)
    (hJ : ∀ sz sg im, F (.int sz sg im) → sz = 1 ∨ sz = 2 ∨ sz = 4 ∨ sz = 8) (hA : ∀ m u, F (.arr m u) → IntT u)
    (nm ns : ByteArray) (hns : ns.size ≤ 10) (n : Nat) (hn : n ≤ 8) (sv : Value) (w : World) (hs : U32s w sv n) :
    Calls Tryz.prog 7 #[sv, .string nm, .string ns, .int .i64 d] w (Made w (StrT F M (n * (M + 32) + 8) nm)) := by
  obtain ⟨sa, cap, rfl, hsl⟩ := hs
  go_enter Tryz.func7, Tryz.ntmps7
  go_wp2
  go_loopg [10, 11, 25] n (fun gk a b c wr => StrLoop w (· < w.heap.size) F M w.heap.size nm n ns.size gk a b c wr)
  case atStart => exact ⟨0, 0, 0, _, [], fun _ => ⟨#[]⟩, fun _ => .int 0 false ⟨#[]⟩, fun _ => 0, fun _ => 0, fun _ => 0, StrSt.start w nm _ (fun _ h => h) F M _ _ _ _ _, Nat.zero_le _, Nat.zero_le _, Nat.zero_le _, Nat.le_refl _, rfl, rfl, rfl⟩
  case round =>
    obtain ⟨k, at_, nx, v, xs, pn, py, pa, pb, pc, st, hk, hnx, hat, hgk, rfl, rfl, rfl⟩ := hrel
    have hatb : at_ ≤ 100000 := Nat.le_trans hat (Nat.le_trans (Nat.mul_le_mul (Nat.le_trans hk hn) (by omega)) (show 8 * 8256 ≤ 100000 by decide))
    have Hat := Lib.hid hat
    clear hat
    obtain ⟨_, _, c2, _, _, c5⟩ := st.blk.six
    have f2 := st.blk.free 2
    have f5 := st.blk.free 5
    by_cases hlt : k < n
    · rcases hsl with h0 | ⟨sb, off, rfl, hsb, hsc⟩
      · omega
      · obtain ⟨z, hz, hz0, hz1⟩ := hsc k hlt
        have hz' := hz
        rw [← st.old.cell (p := ⟨sb, off + k, none⟩) hsb] at hz'
        clear hz
        by_cases hnl : nx < ns.size
        · have hsl1 := slice_one ns nx hnl
          go_wp2_with fail
          refine (hT (z / 8) _ (by omega) (by omega)).mono ?_
          rintro e w1 ⟨b0, t0, rfl, r0, hF0, hb0⟩
          go_wp2_with fail
          have hb0lt := r0.lt
          have hlt1 := hb0.size
          have hsz := hF t0 hF0
          refine (bytes_any _ b0 t0 _ (r0.alloc _) hsz.2).mono ?_
          rintro e w2 ⟨rfl, nd, rfl⟩
          obtain ⟨hsz1, -⟩ := hsz
          obtain ⟨mxb, hmx, hsz0⟩ : ∃ mxb : Nat, (if (1 : Int) < (t0.bytes : Int) then (t0.bytes : Int) else 1) = mxb ∧ 1 ≤ mxb := by
            by_cases h : (1 : Int) < (t0.bytes : Int)
            · exact ⟨t0.bytes, by rw [if_pos h], by omega⟩
            · exact ⟨1, by rw [if_neg h]; rfl, by omega⟩
          obtain ⟨stp, hmn, hst1, hst8⟩ : ∃ stp : Nat, (if (mxb : Int) < 8 then (mxb : Int) else 8) = stp ∧ 1 ≤ stp ∧ stp ≤ 8 := by
            by_cases h : (mxb : Int) < 8
            · exact ⟨mxb, by rw [if_pos h], hsz0, by omega⟩
            · exact ⟨8, by rw [if_neg h]; rfl, by omega, by omega⟩
          obtain ⟨kz, hkz⟩ : ∃ kz : Int, w1.cell? ⟨b0, 0, none⟩ = some (.int .i64 kz) := by
            obtain ⟨_, _, _, _, _, _, h, _⟩ := r0.head; exact ⟨_, h.cell 0⟩
          go_upto_if 57 with fail
          go_cut [18] (fun s18 wx => ∃ (stp nd : Nat), s18 = .int .i64 stp ∧ 1 ≤ stp ∧ stp ≤ 8 ∧ wx = (w1.alloc (.cells #[.string (ns.extract nx (nx + 1)), .pointer (some ⟨b0, 0, none⟩), .int .i64 0, .int .i64 0, .int .i64 0] 56)).drewN nd)
          case first => as_aux_lemma =>
            rcases r0.kinds with ⟨sz, sg, inm, rfl, hk0⟩ | ⟨an, au, ac, rfl, hk0, hk4, rau⟩ | ⟨tk, hk0, tk1, tk3⟩
            all_goals
              obtain rfl : kz = _ := by simpa using hkz.symm.trans hk0
              clear hk0
            · go_wp2_with fail
              go_meet
              exact ⟨stp, nd, rfl, hst1, hst8, rfl⟩
            · have hau := hA _ _ hF0
              have haub := hF au (hI _ hau)
              go_wp2_with fail
              refine (bytes_any _ ac au _ ((rau.alloc _).drewN _) haub.2).mono ?_
              rintro e w2 ⟨rfl, nd2, rfl⟩
              go_wp2_with fail
              go_meet
              obtain ⟨q1, q2, q3, rfl, q4, -⟩ := hau
              exact ⟨q1, _, rfl, by omega, by omega, rfl⟩
            · go_wp2_with fail
              go_meet
              exact ⟨stp, nd, rfl, hst1, hst8, rfl⟩
          case rest =>
            obtain ⟨stp, nd, rfl, hst1, hst8, rfl⟩ := hcut
            go_upto_block 2 with fail
            go_cut [10, 11] (fun s10 s11 wx => ∃ (qn : ByteArray) (qc : Nat) (qy : Ty) (qa qb at' nx' : Nat), s10 = .int .i64 at' ∧ s11 = .int .i64 nx' ∧ StrPre w (· < w.heap.size) F M at_ w.heap.size nm k v xs pn py pa pb pc wr.heap.size w1.heap.size qn qc qy qa qb wx ∧ at_ ≤ at' ∧ qa ≤ at' ∧ at' ≤ at_ + (8 * M + 256) ∧ nx' ≤ ns.size)
            case first =>
              go_upto_region 19 with fail
              go_cut [80] (fun s80 wx => ∃ (α : Bool), s80 = .bool α ∧ (α = true → ∃ sz sg inm, t0 = .int sz sg inm) ∧ wx = (w1.alloc (.cells #[.string (ns.extract nx (nx + 1)), .pointer (some ⟨b0, 0, none⟩), .int .i64 0, .int .i64 0, .int .i64 0] 56)).drewN nd)
              case first => as_aux_lemma =>
                rcases r0.kinds with ⟨sz, sg, inm, rfl, hk0⟩ | ⟨an, au, ac, rfl, hk0, hk4, rau⟩ | ⟨tk, hk0, tk1, tk3⟩
                all_goals
                  obtain rfl : kz = _ := by simpa using hkz.symm.trans hk0
                  clear hk0
                  go_wp2_with fail
                  go_meet
                · exact ⟨_, rfl, fun _ => ⟨_, _, _, rfl⟩, rfl⟩
                · exact ⟨_, rfl, fun h => by simp at h, rfl⟩
                · exact ⟨_, rfl, fun h => by simp at h, rfl⟩
              case rest =>
                obtain ⟨α, rfl, hα, rfl⟩ := hcut
                cases α
                · clear hα
                  go_upto_region 25 with fail
                  go_cut [127] (fun s127 wx => ∃ (β : Bool), s127 = .bool β ∧ (β = true → d = 1 ∧ nx + 1 + 1 < ns.size) ∧ wx = (w1.alloc (.cells #[.string (ns.extract nx (nx + 1)), .pointer (some ⟨b0, 0, none⟩), .int .i64 0, .int .i64 0, .int .i64 0] 56)).drewN nd)
                  case first => as_aux_lemma =>
                    rcases hd with rfl | rfl
                    · go_wp2_with fail
                      go_meet
                      exact ⟨_, rfl, fun h => by simp at h, rfl⟩
                    · by_cases h15 : (z * 2654435761 % 4294967296 / 268435456 == 15) = true
                      · go_wp2_with fail
                        go_meet
                        exact ⟨_, rfl, fun h => ⟨rfl, by have := of_decide_eq_true h; omega⟩, rfl⟩
                      · have h15' : (z * 2654435761 % 4294967296 / 268435456 == 15) = false := by simpa using h15
                        clear h15
                        go_wp2_with fail
                        go_meet
                        exact ⟨_, rfl, fun h => by simp at h, rfl⟩
                  case rest =>
                    obtain ⟨β, rfl, hβ, rfl⟩ := hcut
                    cases β
                    · as_aux_lemma =>
                      clear hβ
                      obtain ⟨qd, at1, hqd, hqb, hpr, ha1, ha2, ha3⟩ := round_up at_ stp hst1 hst8
                      go_wp2_with fail
                      go_meet
                      exact ⟨_, _, t0, at1, 0, at1 + 8 * t0.bytes, nx + 1, by go_num, by go_num, StrPre.of st hb0 r0 ((below_drewN ((Below.refl _ _).alloc (Nat.le_refl _) _) _).setCell (Nat.le_refl _) _) (((Blk.new _ _ _).drewN _).set 2 _) (.inl ⟨extract_one _ _ hnl, hF0, .inl rfl⟩), by omega, by omega, by omega, by omega⟩
                    · skip
                      · obtain ⟨hd1, hroom⟩ := hβ rfl
                        clear hβ hd
                        subst hd1
                        have hsl2 := slice_two ns nx hroom
                        have hbit := u32_mask1 (z * 2654435761 % 4294967296 / 32) (by omega) (by omega)
                        go_upto_region 26 with fail
                        go_cut [19] (fun s19 wx => s19 = .pointer (some ⟨w1.heap.size + 1 + 1, 0, none⟩) ∧ ∃ kd : Int, (kd = 4 ∨ kd = 5) ∧ InPre w1 (w1.heap.size + 1 + 1) kd (ns.extract nx (nx + 1)) b0 wx)
                        case first =>
                          rcases (by omega : z * 2654435761 % 4294967296 / 32 % 2 = 0 ∨ z * 2654435761 % 4294967296 / 32 % 2 = 1) with hp | hp
                          · as_aux_lemma =>
                            rw [hp] at hbit
                            clear hp
                            go_wp2_with fail
                            go_meet
                            exact ⟨rfl, 4, .inl rfl, (((Blk.new _ _ _).drewN _).alloc _).alloc _, Blk.newAt _ _ _ (by simp), by omega, ((below_drewN ((Below.refl _ _).alloc (Nat.le_refl _) _) _).alloc (by simp) _).alloc (by simp; omega) _⟩
                          · as_aux_lemma =>
                            rw [hp] at hbit
                            clear hp
                            go_wp2_with fail
                            go_meet
                            exact ⟨rfl, 5, .inr rfl, (((Blk.new _ _ _).drewN _).alloc _).alloc _, Blk.newAt _ _ _ (by simp), by omega, ((below_drewN ((Below.refl _ _).alloc (Nat.le_refl _) _) _).alloc (by simp) _).alloc (by simp; omega) _⟩
                        case rest =>
                        obtain ⟨rfl, kd, hkd, ip⟩ := hcut
                        obtain ⟨w2, rfl⟩ : ∃ w2 : World, w2 = wc := ⟨_, rfl⟩
                        have hwr : IntKind.i64.wrap ((nx : Int) + 1 + 1) = (nx : Int) + 1 + 1 := IntWalk.i64_in _ (by omega)
                        have ipd : InPre w1 (w1.heap.size + 1 + 1) kd (ns.extract nx (nx + 1)) b0 w2.drew := ⟨ip.p.drew, ip.i.drew, ip.lt, ip.old.drew⟩
                        have hSof : ∀ w', Blk w' w1.heap.size #[.string (ns.extract nx (nx + 1)), .pointer (some ⟨b0, 0, none⟩), .int .i64 0, .int .i64 0, .int .i64 0] 56 → Blk w' (w1.heap.size + 1 + 1) #[.int .i64 kd, .string ⟨#[]⟩, .int .i64 0, .bool false, .pointer none, .slice none 0 0] 38 → w'.cell? ⟨w1.heap.size, 0, none⟩ = some (.string (ns.extract nx (nx + 1))) ∧ w'.cell? ⟨w1.heap.size, 1, none⟩ = some (.pointer (some ⟨b0, 0, none⟩)) ∧ w'.cell? ⟨w1.heap.size, 2, none⟩ = some (.int .i64 0) ∧ w'.cell? ⟨w1.heap.size, 3, none⟩ = some (.int .i64 0) ∧ w'.cell? ⟨w1.heap.size, 4, none⟩ = some (.int .i64 0) ∧ w'.cell? ⟨w1.heap.size + 1 + 1, 5, none⟩ = some (.slice none 0 0) :=
                          fun w' h1 h2 => ⟨h1.cell 0, h1.cell 1, h1.cell 2, h1.cell 3, h1.cell 4, h2.cell 5⟩
                        go_upto_region 27 with fail
                        refine AnyBut.start (S := (fun w' => w'.cell? ⟨w1.heap.size, 0, none⟩ = some (.string (ns.extract nx (nx + 1))) ∧ w'.cell? ⟨w1.heap.size, 1, none⟩ = some (.pointer (some ⟨b0, 0, none⟩)) ∧ w'.cell? ⟨w1.heap.size, 2, none⟩ = some (.int .i64 0) ∧ w'.cell? ⟨w1.heap.size, 3, none⟩ = some (.int .i64 0) ∧ w'.cell? ⟨w1.heap.size, 4, none⟩ = some (.int .i64 0) ∧ w'.cell? ⟨w1.heap.size + 1 + 1, 5, none⟩ = some (.slice none 0 0))) (t := 19) (by as_aux_lemma => kernel_rfl) (hSof _ ipd.p ipd.i) (fun hHeld => ?_)
                        refine AnyBut.take (i := 0) (v := ?_) rfl (by as_aux_lemma => kernel_rfl) (by as_aux_lemma => kernel_rfl) (by as_aux_lemma => kernel_rfl) (by as_aux_lemma => kernel_rfl) (fun _ _ _ h => h) hHeld (by rfl) ?_ ?_
                        rotate_left
                        focus (intro w hSw; (try dsimp only at hSw); go_simp <;> with_reducible rfl)
                        try simp only [Act.put, List.setIfInBounds_toArray, List.set_cons_zero, List.set_cons_succ]
                        refine AnyBut.take (i := 1) (v := ?_) rfl (by as_aux_lemma => kernel_rfl) (by as_aux_lemma => kernel_rfl) (by as_aux_lemma => kernel_rfl) (by as_aux_lemma => kernel_rfl) (fun _ _ _ h => h) hHeld (by rfl) ?_ ?_
                        rotate_left
                        focus (intro w hSw; (try dsimp only at hSw); go_simp <;> with_reducible rfl)
                        try simp only [Act.put, List.setIfInBounds_toArray, List.set_cons_zero, List.set_cons_succ]
                        refine AnyBut.take (i := 2) (v := ?_) rfl (by as_aux_lemma => kernel_rfl) (by as_aux_lemma => kernel_rfl) (by as_aux_lemma => kernel_rfl) (by as_aux_lemma => kernel_rfl) (fun _ _ _ h => h) hHeld (by rfl) ?_ ?_
                        rotate_left
                        focus (intro w hSw; (try dsimp only at hSw); go_simp <;> with_reducible rfl)
                        try simp only [Act.put, List.setIfInBounds_toArray, List.set_cons_zero, List.set_cons_succ]
                        refine AnyBut.take (i := 3) (v := ?_) rfl (by as_aux_lemma => kernel_rfl) (by as_aux_lemma => kernel_rfl) (by as_aux_lemma => kernel_rfl) (by as_aux_lemma => kernel_rfl) (fun _ _ _ h => h) hHeld (by rfl) ?_ ?_
                        rotate_left
                        focus (intro w hSw; (try dsimp only at hSw); go_simp <;> with_reducible rfl)
                        try simp only [Act.put, List.setIfInBounds_toArray, List.set_cons_zero, List.set_cons_succ]
                        refine AnyBut.take (i := 4) (v := ?_) rfl (by as_aux_lemma => kernel_rfl) (by as_aux_lemma => kernel_rfl) (by as_aux_lemma => kernel_rfl) (by as_aux_lemma => kernel_rfl) (fun _ _ _ h => h) hHeld (by rfl) ?_ ?_
                        rotate_left
                        focus (intro w hSw; (try dsimp only at hSw); go_simp <;> with_reducible rfl)
                        try simp only [Act.put, List.setIfInBounds_toArray, List.set_cons_zero, List.set_cons_succ]
                        refine AnyBut.take (i := 5) (v := ?_) rfl (by as_aux_lemma => kernel_rfl) (by as_aux_lemma => kernel_rfl) (by as_aux_lemma => kernel_rfl) (by as_aux_lemma => kernel_rfl) (fun _ _ _ h => h) hHeld (by rfl) ?_ ?_
                        rotate_left
                        focus (intro w hSw; (try dsimp only at hSw); go_simp <;> with_reducible rfl)
                        try simp only [Act.put, List.setIfInBounds_toArray, List.set_cons_zero, List.set_cons_succ]
                        refine AnyBut.take (i := 6) (v := ?_) rfl (by as_aux_lemma => kernel_rfl) (by as_aux_lemma => kernel_rfl) (by as_aux_lemma => kernel_rfl) (by as_aux_lemma => kernel_rfl) (fun _ _ _ h => h) hHeld (by rfl) ?_ ?_
                        rotate_left
                        focus (intro w hSw; (try dsimp only at hSw); go_simp <;> with_reducible rfl)
                        try simp only [Act.put, List.setIfInBounds_toArray, List.set_cons_zero, List.set_cons_succ]
                        refine AnyBut.take (i := 7) (v := ?_) rfl (by as_aux_lemma => kernel_rfl) (by as_aux_lemma => kernel_rfl) (by as_aux_lemma => kernel_rfl) (by as_aux_lemma => kernel_rfl) (fun _ _ _ h => h) hHeld (by rfl) ?_ ?_
                        rotate_left
                        focus (intro w hSw; (try dsimp only at hSw); go_simp <;> with_reducible rfl)
                        try simp only [Act.put, List.setIfInBounds_toArray, List.set_cons_zero, List.set_cons_succ]
                        refine AnyBut.take (i := 8) (v := ?_) rfl (by as_aux_lemma => kernel_rfl) (by as_aux_lemma => kernel_rfl) (by as_aux_lemma => kernel_rfl) (by as_aux_lemma => kernel_rfl) (fun _ _ _ h => h) hHeld (by rfl) ?_ ?_
                        rotate_left
                        focus (intro w hSw; (try dsimp only at hSw); go_simp <;> with_reducible rfl)
                        try simp only [Act.put, List.setIfInBounds_toArray, List.set_cons_zero, List.set_cons_succ]
                        refine AnyBut.take (i := 9) (v := ?_) rfl (by as_aux_lemma => kernel_rfl) (by as_aux_lemma => kernel_rfl) (by as_aux_lemma => kernel_rfl) (by as_aux_lemma => kernel_rfl) (fun _ _ _ h => h) hHeld (by rfl) ?_ ?_
                        rotate_left
                        focus (intro w hSw; (try dsimp only at hSw); go_simp <;> with_reducible rfl)
                        try simp only [Act.put, List.setIfInBounds_toArray, List.set_cons_zero, List.set_cons_succ]
                        refine AnyBut.take (i := 10) (v := ?_) rfl (by as_aux_lemma => kernel_rfl) (by as_aux_lemma => kernel_rfl) (by as_aux_lemma => kernel_rfl) (by as_aux_lemma => kernel_rfl) (fun _ _ _ h => h) hHeld (by rfl) ?_ ?_
                        rotate_left
                        focus (intro w hSw; (try dsimp only at hSw); go_simp <;> with_reducible rfl)
                        try simp only [Act.put, List.setIfInBounds_toArray, List.set_cons_zero, List.set_cons_succ]
                        refine AnyBut.take (i := 11) (v := ?_) rfl (by as_aux_lemma => kernel_rfl) (by as_aux_lemma => kernel_rfl) (by as_aux_lemma => kernel_rfl) (by as_aux_lemma => kernel_rfl) (fun _ _ _ h => h) hHeld (by rfl) ?_ ?_
                        rotate_left
                        focus (intro w hSw; (try dsimp only at hSw); go_simp <;> with_reducible rfl)
                        try simp only [Act.put, List.setIfInBounds_toArray, List.set_cons_zero, List.set_cons_succ]
                        refine AnyBut.take (i := 12) (v := ?_) rfl (by as_aux_lemma => kernel_rfl) (by as_aux_lemma => kernel_rfl) (by as_aux_lemma => kernel_rfl) (by as_aux_lemma => kernel_rfl) (fun _ _ _ h => h) hHeld (by rfl) ?_ ?_
                        rotate_left
                        focus (intro w hSw; (try dsimp only at hSw); go_simp <;> with_reducible rfl)
                        try simp only [Act.put, List.setIfInBounds_toArray, List.set_cons_zero, List.set_cons_succ]
                        refine AnyBut.one (i := 13) (by as_aux_lemma => kernel_rfl) rfl (fun K hK => ?_)
                        go_simp
                        go_at_call 23
                        refine (intOf_int (z * 2654435761 % 4294967296 / 128) _ (by omega) (by omega)).mono ?_
                        rintro e wA ⟨bi, it, rfl, ri, hit, hbi⟩
                        have hpA := ipd.p.old hbi
                        have hiA := ipd.i.old hbi
                        have hwA := hbi.size
                        have hiA2 : w1.heap.size + 1 + 1 < wA.heap.size := hiA.lt
                        refine hK.out _ _ (hSof _ hpA hiA) (fun hHeld => ?_)
                        clear hK K
                        try simp only [Act.put, List.setIfInBounds_toArray, List.set_cons_zero, List.set_cons_succ]
                        refine AnyBut.take (i := 14) (v := ?_) rfl (by as_aux_lemma => kernel_rfl) (by as_aux_lemma => kernel_rfl) (by as_aux_lemma => kernel_rfl) (by as_aux_lemma => kernel_rfl) (fun _ _ _ h => h) hHeld (by rfl) ?_ ?_
                        rotate_left
                        focus (intro w hSw; (try dsimp only at hSw); go_simp <;> with_reducible rfl)
                        try simp only [Act.put, List.setIfInBounds_toArray, List.set_cons_zero, List.set_cons_succ]
                        refine AnyBut.one (i := 15) (by as_aux_lemma => kernel_rfl) rfl (fun K hK => ?_)
                        go_simp
                        refine hK.out _ _ (hSof _ (hpA.alloc _) (hiA.alloc _)) (fun hHeld => ?_)
                        clear hK K
                        try simp only [Act.put, List.setIfInBounds_toArray, List.set_cons_zero, List.set_cons_succ]
                        refine AnyBut.one (i := 16) (by as_aux_lemma => kernel_rfl) rfl (fun K hK => ?_)
                        refine step_app elemParts (.tmp 154) (.tmp 165) rfl rfl (w1.heap.size + 1 + 1 + 1) (.slice none 0 0) 0 [] rfl (World.ownsRow_nil _ _ _ _) wA.heap.size 2 2 #[.string (ns.extract nx (nx + 1)), .pointer (some ⟨b0, 0, none⟩), .int .i64 0, .int .i64 0, .int .i64 0, .string (ns.extract (nx + 1) (nx + 1 + 1)), .pointer (some ⟨bi, 0, none⟩), .int .i64 0, .int .i64 0, .int .i64 0] rfl (Blk.new _ _ _) rfl rfl (by decide) ?_ (by omega) (by decide) (by simp; omega)
                        intro g cap' w5 ha
                        have hpB := (hpA.alloc _).app ha (World.ownsRow_nil _ _ _ _) (by omega)
                        have hiB := (hiA.alloc _).app ha (World.ownsRow_nil _ _ _ _) (Nat.lt_succ_self _)
                        have d5 := hiB.cell 5
                        have e5 := hiB.free 5
                        simp only [List.getElem?_toArray, List.getElem?_cons_succ, List.getElem?_cons_zero] at d5
                        refine hK.out _ _ (hSof _ hpB hiB) (fun hHeld => ?_)
                        clear hK K
                        try simp only [Act.put, List.setIfInBounds_toArray, List.set_cons_zero, List.set_cons_succ]
                        refine AnyBut.take (i := 17) (v := ?_) rfl (by as_aux_lemma => kernel_rfl) (by as_aux_lemma => kernel_rfl) (by as_aux_lemma => kernel_rfl) (by as_aux_lemma => kernel_rfl) (fun _ _ _ h => h) hHeld (by rfl) ?_ ?_
                        rotate_left
                        focus (intro w hSw; (try dsimp only at hSw); go_simp <;> with_reducible rfl)
                        try simp only [Act.put, List.setIfInBounds_toArray, List.set_cons_zero, List.set_cons_succ]
                        refine AnyBut.take (i := 18) (v := ?_) rfl (by as_aux_lemma => kernel_rfl) (by as_aux_lemma => kernel_rfl) (by as_aux_lemma => kernel_rfl) (by as_aux_lemma => kernel_rfl) (fun _ _ _ h => h) hHeld (by rfl) ?_ ?_
                        rotate_left
                        focus (intro w hSw; (try dsimp only at hSw); go_simp <;> with_reducible rfl)
                        try simp only [Act.put, List.setIfInBounds_toArray, List.set_cons_zero, List.set_cons_succ]
                        refine AnyBut.last (by as_aux_lemma => kernel_rfl) rfl (by as_aux_lemma => kernel_rfl) (fun K hK => ?_)
                        go_simp
                        refine hK.out _ _ ?_
                        clear hK K
                        try simp only [Act.put, List.setIfInBounds_toArray, List.set_cons_zero, List.set_cons_succ]
                        have ip5 := ip.post hit ri (below_undrew hbi) ha
                        clear hpA hiA hpB hiB d5 e5 hHeld hSof ipd ha
                        generalize w5.setCell ⟨w1.heap.size + 1 + 1, 5, none⟩ (.slice (some ⟨g, 0, none⟩) 2 cap') = w6 at ip5 ⊢
                        obtain ⟨cur, hcur, hcs, hc2, hcm, htk⟩ := ip5.row
                        have hg7 : w6.cell? ⟨g, 7, none⟩ = some (.int .i64 0) := by
                          rw [hcur.cell 7, ← Array.getElem?_toList, ← List.getElem?_take_of_lt (show 7 < 10 by decide), htk]; rfl
                        have hf7 := hcur.free 7
                        obtain ⟨i0, -, i2, -, -, i5⟩ := ip5.i.six
                        have fi2 := ip5.i.free 2
                        obtain ⟨p0, p1, p2, p3, p4⟩ := ip5.p.five
                        have fp0 := ip5.p.free 0
                        have fp1 := ip5.p.free 1
                        have fp2 := ip5.p.free 2
                        have fp3 := ip5.p.free 3
                        have fp4 := ip5.p.free 4
                        have hig := ip5.gt
                        clear hsl1 hsl2 hbit
                        rcases hkd with rfl | rfl
                        · go_wp2_with fail
                          go_meet
                          obtain ⟨y, hpre⟩ := ip5.close4 (q := 64 * ((t0.bytes + 7) / 8)) (sz := 8 * ((t0.bytes + 7) / 8 + 1)) (a1 := (at_ + 63) / 64 * 64) (zq := 64 * ((↑t0.bytes + 7) / 8)) (zs := 8 * ((↑t0.bytes + 7) / 8 + 1)) (za := (↑at_ + 63) / 64 * 64) st hb0 r0 hF0 hI (extract_one ns nx hnl) (extract_one ns (nx + 1) (by omega)) (by omega) (by omega) (by omega) (by omega) (by omega)
                          refine ⟨_, _, y, (at_ + 63) / 64 * 64, 0, (at_ + 63) / 64 * 64 + 8 * (8 * ((t0.bytes + 7) / 8 + 1)), nx + 1 + 1, ?_, congrArg (Value.int .i64) (by omega), hpre, ?_, ?_, ?_, ?_⟩
                          · exact congrArg (Value.int .i64) (by omega)
                          all_goals omega
                        · go_wp2_with fail
                          go_meet
                          obtain ⟨y, hpre⟩ := ip5.close5 (sz := 8 * ((t0.bytes + 7) / 8 + 1)) (a1 := (at_ + 63) / 64 * 64) (zs := 8 * ((↑t0.bytes + 7) / 8 + 1)) (za := (↑at_ + 63) / 64 * 64) st hb0 r0 hF0 hI (extract_one ns nx hnl) (extract_one ns (nx + 1) (by omega)) (by omega) (by omega) (by omega)
                          refine ⟨_, _, y, (at_ + 63) / 64 * 64, 0, (at_ + 63) / 64 * 64 + 8 * (8 * ((t0.bytes + 7) / 8 + 1)), nx + 1 + 1, ?_, congrArg (Value.int .i64) (by omega), hpre, ?_, ?_, ?_, ?_⟩
                          · exact congrArg (Value.int .i64) (by omega)
                          all_goals omega
                · as_aux_lemma =>
                  obtain ⟨sz, sg, inm, rfl⟩ := hα rfl
                  clear hα
                  have hj8 := hJ _ _ _ hF0
                  have hbb : (Ty.int sz sg inm).bytes = sz := rfl
                  have hsz0' : 1 ≤ sz := by omega
                  rw [hbb] at hsz1 hmx ⊢
                  clear hbb
                  have hbz8 : sz ≤ 8 := by omega
                  obtain ⟨bt, hbt, hb1, hb2⟩ : ∃ bt : Nat, 1 + z * 2654435761 % 4294967296 / 256 % (8 * (sz : Int)) = (bt : Int) ∧ 1 ≤ bt ∧ bt ≤ 8 * sz := by
                    have hq1 : 0 ≤ z * 2654435761 % 4294967296 / 256 % (8 * (sz : Int)) := Int.emod_nonneg _ (by omega)
                    have hq2 : z * 2654435761 % 4294967296 / 256 % (8 * (sz : Int)) < 8 * (sz : Int) := Int.emod_lt_of_pos _ (by omega)
                    exact ⟨(1 + z * 2654435761 % 4294967296 / 256 % (8 * (sz : Int))).toNat, by omega, by omega, by omega⟩
                  have hr1 : 0 ≤ (at_ : Int) % (8 * (sz : Int)) := Int.emod_nonneg _ (by omega)
                  have hr2 : (at_ : Int) % (8 * (sz : Int)) < 8 * (sz : Int) := Int.emod_lt_of_pos _ (by omega)
                  have hmc := Lib.hid (mod_cast8 at_ sz)
                  by_cases hfit : 8 * (sz : Int) < (at_ : Int) % (8 * (sz : Int)) + bt
                  · obtain ⟨qd, at1, hqd, hqb, hpr, ha1, ha2, ha3⟩ := round_up at_ sz hsz0' hbz8
                    go_wp2_with fail
                    go_quiet (fail)
                    go_wp2_with fail
                    go_meet
                    exact ⟨_, _, .int sz sg inm, at1, bt, at1 + bt, nx + 1, by go_num, by go_num, StrPre.of st hb0 r0 ((below_drewN ((below_drewN ((Below.refl _ _).alloc (Nat.le_refl _) _) _).setCell (Nat.le_refl _) _) _).setCell (Nat.le_refl _) _) ((((Blk.new _ _ _).drewN _).set 3 _).drewN _ |>.set 2 _) (.inl ⟨extract_one _ _ hnl, hF0, .inr ⟨_, _, _, rfl, hb2, by omega⟩⟩), by omega, by omega, by omega, by omega⟩
                  · go_wp2_with fail
                    go_quiet (fail)
                    go_wp2_with fail
                    go_meet
                    exact ⟨_, _, .int sz sg inm, at_, bt, at_ + bt, nx + 1, by go_num, by go_num, StrPre.of st hb0 r0 ((below_drewN ((below_drewN ((Below.refl _ _).alloc (Nat.le_refl _) _) _).setCell (Nat.le_refl _) _) _).setCell (Nat.le_refl _) _) ((((Blk.new _ _ _).drewN _).set 3 _).drewN _ |>.set 2 _) (.inl ⟨extract_one _ _ hnl, hF0, .inr ⟨_, _, _, rfl, hb2, by have := hmc.out; omega⟩⟩), by omega, by omega, by omega, by omega⟩
            case rest =>
              obtain ⟨qn, qc, qy, qa, qb, at', nx', rfl, rfl, pre, hat1, hat2, hat3, hnx3⟩ := hcut
              obtain ⟨p0, p1, p2, p3, p4⟩ := pre.blk.five
              obtain ⟨-, -, -, -, -, q5⟩ := pre.st.blk.six
              have g5 := pre.st.blk.free 5
              have pown := pre.st.own
              clear c2 c5 f2 f5
              have hk63 : k + 1 ≤ maxLen := by unfold maxLen; omega
              have hbase : w.heap.size + 1 ≤ wc.heap.size := pre.st.blk.lt
              have hlt3 : w.heap.size < wc.heap.size := pre.st.blk.lt
              have hlt4 : w1.heap.size < wc.heap.size := pre.blk.lt
              go_upto_region 35 with fail
              apply wp_meet (fun g cap' w4 w' => Appended (wc.alloc (.cells #[.string qn, .pointer (some ⟨qc, 0, none⟩), .int .i64 qa, .int .i64 qb, .int .i64 0] 56)).drew (w.heap.size + 1) 56 5 v k 1 xs [.string qn, .pointer (some ⟨qc, 0, none⟩), .int .i64 qa, .int .i64 qb, .int .i64 0] g cap' w4 ∧ w' = w4.setCell ⟨w.heap.size, 5, none⟩ (.slice (some ⟨g, 0, none⟩) (k + 1) cap'))
              · go_region_law ((refine step_app elemParts (.tmp 212) (.tmp 214) rfl rfl (w.heap.size + 1) v k xs rfl (by first | exact pown | exact pown.alloc _) wc.heap.size 1 1 #[.string qn, .pointer (some ⟨qc, 0, none⟩), .int .i64 qa, .int .i64 qb, .int .i64 0] rfl (by first | exact Blk.new _ _ _ | exact (Blk.new _ _ _).drew) rfl rfl (by decide) ?_ (by omega) hk63 (by first | exact hbase | (simp; omega)); intro g cap' w4 ha; have d5 := (Blk.app (b := w.heap.size) (by first | exact pre.st.blk.alloc _ | exact (pre.st.blk.alloc _).drew) ha (by first | exact pown | exact pown.alloc _) (Nat.lt_succ_self _)).cell 5; have e5 := (Blk.app (b := w.heap.size) (by first | exact pre.st.blk.alloc _ | exact (pre.st.blk.alloc _).drew) ha (by first | exact pown | exact pown.alloc _) (Nat.lt_succ_self _)).free 5; simp only [List.getElem?_toArray, List.getElem?_cons_succ, List.getElem?_cons_zero] at d5))
                all_goals exact ⟨g, cap', w4, ⟨ha, rfl⟩, rfl⟩
              · rintro g cap' w4 w' ⟨ha, rfl⟩
                clear p0 p1 p2 p3 p4 q5 g5 hbase hlt3 hlt4 pown hk63
                go_wp2_with fail
                go_roundg (n - (k + 1))
                case measure => omega
                case rel => exact ⟨k + 1, at', nx', _, _, _, _, _, _, _, pre.step ha hat1 hat2, by omega, hnx3, at_step Hat.out hat3, Nat.le_refl _, rfl, rfl, by go_num⟩
        · go_wp2_with fail
          go_ret
          exact st.made (by omega) (by omega) (sz_done Hat.out hk)
    · have hke : k = n := by omega
      have Hke := Lib.hid hke
      clear hke
      go_wp2_with fail
      go_ret
      exact st.made (by omega) (by omega) (sz_done Hat.out hk)

#print axioms structOf_any
end Go.Proofs.YtfilbgmbmlmdbaaGreatDoor
