/- Adding a type to a builder. Nothing is claimed here. -/
import Derived.Test.YtfilbgmbmlmdbaaAddB
import Derived.Deep.DeepCutAuto
import Derived.Deep.CutBlock
namespace Go.Proofs.Ytfilbgmbmlmdbaa
open Go.RowKit Go.MapKept

theorem mapNotNil (mb : Nat) (W : World) : (binOp .eql 108 (.map (some mb)) (.map none)).run Try.prog W = .ok (.bool false) W := by
  have h : ∀ d : Nat, (Op.equalIn (d + 1) 108 (.map (some mb)) (.map none)).run Try.prog W = .ok false W := fun d => by
    simp [Op.equalIn, run_underlying Try.underlying108, Result.andThen]
  have h2 : (Op.equal 108 (.map (some mb)) (.map none)).run Try.prog W = .ok false W := h 9999
  simp only [binOp]
  simp [h2]

section
variable {w : World} {lo bb mb c n og i : Nat} {tv : Value} {φ : Nat → Option Nat} {pt : Nat → TypeId} {ob : Nat → Nat}
/-- What a call of Add leaves. -/
def AddPost (w : World) (lo bb mb n : Nat) (tv : Value) (pt : Nat → TypeId) (ob : Nat → Nat) (x c' : Nat) (φ' : Nat → Option Nat) (e : Ending) (w' : World) : Prop :=
  ∃ tv', e = .returned (.tuple #[.int .u32 (x : Int), .nilIface]) ∧ Bld w' lo bb mb c' n tv' φ' pt ob ∧
      Below lo w w' ∧ (∀ g, g < w.heap.size → ¬ Bb bb mb tv g → w'.heap[g]? = w.heap[g]?) ∧ (tv'.ownBlock = tv.ownBlock ∨ ∀ g, tv'.ownBlock = some g → w.heap.size ≤ g)

set_option maxRecDepth 100000 in
set_option maxHeartbeats 4000000 in
theorem add_hit {x : Nat} (hK : Keys w lo n og pt ob) (st : Bld w lo bb mb c n tv φ pt ob) (hi : i < n) (hφ : φ i = some x) :
    Calls Try.prog 22 #[.pointer (some ⟨bb, 0, none⟩), keyAt pt ob i] w (AddPost w lo bb mb n tv pt ob x c φ) := by
  obtain ⟨hkey, hv, hd⟩ := hK.key hi
  have nv := taNoVoid _ hv
  have nd := taNoDs _ hd
  have hmn := mapNotNil mb
  obtain ⟨m, hm, ht⟩ := st.mp
  have hz : (zeroValue 72).run Try.prog w = .ok (.int .u32 0) w := by simp
  have b1 := st.blk.cell 1
  simp only [List.getElem?_toArray, List.getElem?_cons_zero, List.getElem?_cons_succ] at b1
  have hat := ht.at_ _ hi
  have K := iface_keys (P := Try.prog) (k := 48) w Try.underlying48
  have hG : ∀ x v, m x = some v → IfaceKey Try.prog w x := fun x v h => by
    obtain ⟨j, hj, rfl⟩ := ht.only x v h
    exact (hK.key hj).1
  have hbl := st.blk.lt
  clear hv hd
  rw [hφ] at hat
  simp only [Option.map_some] at hat
  clear hφ
  go_enter Try.func22, Try.ntmps22
  go_wp2_with (at_lookup; refine wpList_look rfl _ _ rfl Try.underlying108 hz K rfl hm hG _ rfl hkey _ hat ?_)
  go_ret2
  exact ⟨_, rfl, st, Below.refl _ _, fun _ _ _ => rfl, .inl rfl⟩

set_option maxRecDepth 100000 in
set_option maxHeartbeats 4000000 in
theorem add_miss (hK : Keys w lo n og pt ob) (st : Bld w lo bb mb c n tv φ pt ob) (hi : i < n) (hc : c ≤ 1000) (hφ : φ i = none) :
    Calls Try.prog 22 #[.pointer (some ⟨bb, 0, none⟩), keyAt pt ob i] w (AddPost w lo bb mb n tv pt ob (c + 1) (c + 1) (fun j => if j = i then some (c + 1) else φ j)) := by
  obtain ⟨hkey, hv, hd⟩ := hK.key hi
  have nv := taNoVoid _ hv
  have nd := taNoDs _ hd
  have hmn := mapNotNil mb
  obtain ⟨m, hm, ht⟩ := st.mp
  obtain ⟨xs, hown⟩ := st.own
  have hz : (zeroValue 72).run Try.prog w = .ok (.int .u32 0) w := by simp
  have b1 := st.blk.cell 1
  have b0 := st.blk.cell 0
  simp only [List.getElem?_toArray, List.getElem?_cons_zero, List.getElem?_cons_succ] at b1 b0
  have hat := ht.at_ _ hi
  have K := iface_keys (P := Try.prog) (k := 48) w Try.underlying48
  have hG : ∀ x v, m x = some v → IfaceKey Try.prog w x := fun x v h => by
    obtain ⟨j, hj, rfl⟩ := ht.only x v h
    exact (hK.key hj).1
  have hbl := st.blk.lt
  have hmlt := hm.lt
  have hlow := hK.lt.2
  clear hv hd
  rw [hφ] at hat
  simp only [Option.map_none] at hat
  clear hφ
  have hcs : (c : Int) ≤ 1000 := by omega
  have hw1 : IntKind.u32.wrap ((c : Int) + 1) = (c : Int) + 1 := IntWalk.u32_in _ (by omega)
  have hGo : ∀ w5, Below lo w w5 → ∀ x v, m x = some v → IfaceKey Try.prog w5 x := fun w5 hb x v h => by
    obtain ⟨j, hj, rfl⟩ := ht.only x v h
    exact ((hK.old hb).key hj).1
  have hne : some bb ≠ tv.ownBlock := fun h => st.ne.2.1 h.symm
  have hnm : some mb ≠ tv.ownBlock := fun h => st.ne.2.2.1 h.symm
  have hin : ∀ w4 u, Below lo (w.alloc (.cells #[keyAt pt ob i] 48)) w4 → Below lo w (w4.setCell ⟨bb, 0, none⟩ u) := fun w4 u hb =>
    (((Below.refl _ _).alloc hlow _).trans hb).setCell st.los.1 _
  have hgo : ∀ w4, (w.alloc (.cells #[keyAt pt ob i] 48)).grownBy w4 tv.ownBlock → Below lo (w.alloc (.cells #[keyAt pt ob i] 48)) w4 := fun w4 hg =>
    (Below.refl _ _).grown hg (by simp; omega) (fun k hk => (hown.lt k hk).1)
  go_enter Try.func22, Try.ntmps22
  go_wp2_with (first
    | (at_lookup; refine wpList_look rfl _ _ rfl Try.underlying108 hz K rfl hm hG _ rfl hkey _ hat ?_)
    | (at_builtin; refine wpList_app typeElem (.tmp 58) (.tmp 60) rfl rfl lo tv c xs rfl (hown.alloc _) w.heap.size 1 1 _ rfl (Blk.new _ _ _) rfl rfl (by decide) ?_ ?ka1 ?ka2 ?ka3; intro g cap w4 ha; have d4 := ((st.blk.alloc _).grown ha.2.1 hne).cell 0; have f4 := ((st.blk.alloc _).grown ha.2.1 hne).free 0; have d1 := ((st.blk.alloc _).grown ha.2.1 hne).cell 1; simp only [List.getElem?_toArray, List.getElem?_cons_zero, List.getElem?_cons_succ] at d4 d1; have hbl4 := ((st.blk.alloc _).grown ha.2.1 hne).lt; have hb5 := hin w4 (.slice (some ⟨g, 0, none⟩) (c + 1) cap) (hgo w4 ha.2.1);
        have hK5 := hK.old hb5; have mp5 := ((hm.alloc (.cells #[keyAt pt ob i] 48)).grown ha.2.1 hnm).set (p := ⟨bb, 0, none⟩) (Ne.symm st.ne.1) (.slice (some ⟨g, 0, none⟩) (c + 1) cap); have K5 := iface_keys (P := Try.prog) (k := 48) (w4.setCell ⟨bb, 0, none⟩ (.slice (some ⟨g, 0, none⟩) (c + 1) cap)) Try.underlying48;
        have hG5 := hGo _ hb5; have hkey5 := (hK5.key hi).1)
    | (at_mapUpdate; refine wpList_store rfl _ _ _ rfl Try.underlying108 K5 rfl mp5 hG5 (keyAt pt ob i) (.int .u32 ((c : Int) + 1)) rfl rfl hkey5 hat ?_; intro w6 hg6 hs6 hm6))
  case ka1 => omega
  case ka2 => unfold maxLen; omega
  case ka3 => simp; omega
  go_ret2
  have hg9 := ha.2.2.1
  have hown9 := ha.1
  refine ⟨.slice (some ⟨g, 0, none⟩) (c + 1) cap, rfl, ⟨?_, ⟨xs ++ [keyAt pt ob i], ?_⟩, ⟨withKey m (keyAt pt ob i) (.int .u32 ((c : Int) + 1)), hm6 _ (withKey_at _ _ _) (withKey_ne _ _ _), ht.put hK hi (withKey_at _ _ _) (withKey_ne _ _ _)⟩, st.los, st.ne.1, ?_, ?_, _, _, rfl⟩, ?_, ?_, ?_⟩
  · have h1 := (((st.blk.alloc (.cells #[keyAt pt ob i] 48)).grown ha.2.1 hne).set 0 (.slice (some ⟨g, 0, none⟩) (c + 1) cap)).grown hg6 (fun e => st.ne.1 (Option.some.inj e))
    exact h1
  · refine ownsRow_of hown9 fun x hx hl => ?_
    have hxg : x = g := by simpa [Value.ownBlock] using hx.symm
    subst hxg
    have hxm : x ≠ mb := by
      rcases hg9 with h | h
      · exact fun e => st.ne.2.2.1 (e ▸ h)
      · simp at h; omega
    have hxb : x ≠ bb := by
      rcases hg9 with h | h
      · exact fun e => st.ne.2.1 (e ▸ h)
      · simp at h; omega
    exact (hg6.block x (by simpa using hl) (fun e => hxm (Option.some.inj e))).trans (Below.heap_setCell _ _ _ _ hxb)
  · rcases hg9 with h | h
    · exact fun e => st.ne.2.1 (by rw [h]; exact e)
    · simp [Value.ownBlock] at h ⊢; omega
  · rcases hg9 with h | h
    · exact fun e => st.ne.2.2.1 (by rw [h]; exact e)
    · simp [Value.ownBlock] at h ⊢; omega
  · exact hb5.grown hg6 (by have := hb5.size; omega) (fun k hk => by cases hk; exact st.los.2)
  · intro x hx hB
    have hx1 : (w.alloc (.cells #[keyAt pt ob i] 48)).heap[x]? = w.heap[x]? := Below.heap_alloc _ _ _ hx
    have hx2 := ha.2.1.block x (by simp; omega) (fun e => hB (.inr (.inr e.symm)))
    have hx3 := Below.heap_setCell w4 ⟨bb, 0, none⟩ (.slice (some ⟨g, 0, none⟩) (c + 1) cap) x (fun e => hB (.inl e))
    have hx4 := hg6.block x (by have := hb5.size; omega) (fun e => hB (.inr (.inl (Option.some.inj e))))
    exact hx4.trans (hx3.trans (hx2.trans hx1))
  · rcases hg9 with h | h
    · exact .inl (by rw [h]; rfl)
    · exact .inr fun y hy => by
        have : y = g := by simpa [Value.ownBlock] using hy.symm
        subst this
        simp at h; omega
theorem add_any {is : Nat → Nat} {k : Nat} (hK : Keys w lo n og pt ob) (st : Bld w lo bb mb (cntOf is k).2 n tv (cntOf is k).1 pt ob) (hi : is k < n) (hk : k ≤ 1000) :
    Calls Try.prog 22 #[.pointer (some ⟨bb, 0, none⟩), keyAt pt ob (is k)] w (AddPost w lo bb mb n tv pt ob (numOf is k) (cntOf is (k + 1)).2 (cntOf is (k + 1)).1) := by
  cases hφ : (cntOf is k).1 (is k) with
  | some x =>
    obtain ⟨e1, e2⟩ := cntOf_hit hφ
    rw [e1, e2]
    exact add_hit hK st hi hφ
  | none =>
    obtain ⟨e1, e2⟩ := cntOf_miss hφ
    rw [e1, e2]
    exact add_miss hK st hi (by have := cntOf_le is k; omega) hφ
#print axioms add_any
end
end Go.Proofs.Ytfilbgmbmlmdbaa
