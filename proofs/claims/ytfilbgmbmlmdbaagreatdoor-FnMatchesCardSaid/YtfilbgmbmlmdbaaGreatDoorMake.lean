/- The set's own makers of types: ints, enumerations; sizes; what stands behind names. Contracts of these functions. -/
import Derived.Test.YtfilbgmbmlmdbaaGreatDoorBase
namespace Go.Proofs.YtfilbgmbmlmdbaaGreatDoor
open Go.RowKit

theorem u32_mask1 (a : Int) (h1 : 0 ≤ a) (h2 : a < 4294967296) : bits .and .u32 a 1 = a % 2 := by
  rw [u32_and a 1 h1 h2 (by omega) (by omega)]; simp only [show (1 : Int).toNat = 1 from rfl, nat_mask1]; omega
theorem u32_mask7 (a : Int) (h1 : 0 ≤ a) (h2 : a < 4294967296) : bits .and .u32 a 7 = a % 8 := by
  rw [u32_and a 7 h1 h2 (by omega) (by omega)]; simp only [show (7 : Int).toNat = 7 from rfl, nat_mask3]; omega
theorem u32_mask255 (a : Int) (h1 : 0 ≤ a) (h2 : a < 4294967296) : bits .and .u32 a 255 = a % 256 := by
  rw [u32_and a 255 h1 h2 (by omega) (by omega)]; simp only [show (255 : Int).toNat = 255 from rfl, nat_mask8]; omega
theorem enc1 : Utf8.encode 49 = ⟨#[49]⟩ ∧ Utf8.encode 50 = ⟨#[50]⟩ ∧ Utf8.encode 52 = ⟨#[52]⟩ ∧ Utf8.encode 56 = ⟨#[56]⟩ := by
  refine ⟨?_, ?_, ?_, ?_⟩ <;> kernel_rfl
theorem enc2 : Utf8.encode 48 = ⟨#[48]⟩ ∧ Utf8.encode 51 = ⟨#[51]⟩ ∧ Utf8.encode 53 = ⟨#[53]⟩ := by
  refine ⟨?_, ?_, ?_⟩ <;> kernel_rfl

/-- The call made a type of this form in new memory. -/
def Made (w : World) (F : Ty → Prop) (e : Ending) (w' : World) : Prop :=
  ∃ b t, e = .returned (.pointer (some ⟨b, 0, none⟩)) ∧ Rep w' (· < w.heap.size) b t ∧ F t ∧ Below w.heap.size w w'

theorem Made.mono {w : World} {F G : Ty → Prop} {e : Ending} {w' : World} (h : Made w F e w') (hg : ∀ t, F t → G t) : Made w G e w' := by
  obtain ⟨b, t, h1, h2, h3, h4⟩ := h
  exact ⟨b, t, h1, h2, hg t h3, h4⟩

theorem made_int {W w1 : World} {k : Int} {sz : Nat} {nm : ByteArray} {sg : Bool} {B : Nat} (hk : k = sz) (hs : sz = 1 ∨ sz = 2 ∨ sz = 4 ∨ sz = 8) (hn : nm.size ≤ 2) (hb : Below W.heap.size W w1) (hB : B = w1.heap.size) :
    Made W IntT (.returned (.pointer (some ⟨B, 0, none⟩))) (w1.alloc (.cells #[.int .i64 1, .string nm, .int .i64 k, .bool sg, .pointer none, .slice none 0 0] 38)) := by
  subst hk; subst hB
  exact ⟨_, _, rfl, .int (Blk.new _ _ _) (fun h => Nat.not_lt.2 hb.size h), ⟨_, _, _, rfl, hs, hn⟩, hb.alloc hb.size _⟩

set_option maxHeartbeats 1000000 in
theorem intOf_any (n : Nat) (w : World) (hn : n < 4294967296) :
    Calls Tryz.prog 23 #[.int .u32 n] w (Made w IntT) := by
  obtain ⟨e1, e2, e4, e8⟩ := enc1
  have h1 := u32_mask1 (n / 4) (by omega) (by omega)
  rcases (by omega : (n : Int) / 4 % 2 = 0 ∨ (n : Int) / 4 % 2 = 1) with h | h
  all_goals
    rw [h] at h1
    clear h
    rcases (by omega : n % 4 = 0 ∨ n % 4 = 1 ∨ n % 4 = 2 ∨ n % 4 = 3) with h | h | h | h
    all_goals
      have h2 : (n : Int) % 4 = (n % 4 : Nat) := by omega
      rw [h] at h2
      go_enter Tryz.func23, Tryz.ntmps23
      go_wp2
      go_ret
      exact made_int (sz := 2 ^ (n % 4)) (by rw [h]; rfl) (by rw [h]; decide) (by decide) ((Below.refl _ _).alloc (Nat.le_refl _) _) (by simp)

theorem enc_digit (x : Int) (h0 : 0 ≤ x) (h1 : x < 6) : ∃ c, Utf8.encode (48 + x) = ⟨#[c]⟩ := by
  obtain ⟨e1, e2, e4, e8⟩ := enc1
  obtain ⟨e0, e3, e5⟩ := enc2
  rcases (by omega : x = 0 ∨ x = 1 ∨ x = 2 ∨ x = 3 ∨ x = 4 ∨ x = 5) with rfl | rfl | rfl | rfl | rfl | rfl
  · exact ⟨_, e0⟩
  · exact ⟨_, e1⟩
  · exact ⟨_, e2⟩
  · exact ⟨_, e3⟩
  · exact ⟨_, e4⟩
  · exact ⟨_, e5⟩
theorem string_add2 (w : World) (a b : UInt8) : (Op.stringOp .add ⟨#[a]⟩ ⟨#[b]⟩).run Tryz.prog w = .ok (.string ⟨#[a, b]⟩) w :=
  run_string_add_sum w ⟨#[a]⟩ ⟨#[b]⟩ (by show 2 ≤ _; decide)

/-- An enumeration in the making. -/
structure EnmSt (W : World) (tb : Nat) (nm : ByteArray) (sg : Bool) (k : Nat) (v : Value) (xs : List Value) (vn : Nat → ByteArray) (vv : Nat → Int) (w : World) : Prop where
  blk : Blk w tb #[.int .i64 6, .string nm, .int .i64 4, .bool sg, .pointer none, v] 38
  own : w.ownsRow (tb + 1) 56 5 v k xs
  row : ∀ i, i < k → PRow xs i (vn i) (.pointer none) 0 0 (vv i)
  ok : ∀ i, i < k → (vn i).size = 2 ∧ 0 ≤ vv i ∧ vv i < 256
  old : Below W.heap.size W w
  lo : W.heap.size ≤ tb
def EnmLoop (W : World) (tb : Nat) (nm : ByteArray) (sg : Bool) (m : Nat) (i : Value) (w : World) : Prop :=
  ∃ k v xs vn vv, EnmSt W tb nm sg k v xs vn vv w ∧ k ≤ m ∧ i = .int .u32 (k : Nat)

theorem EnmSt.step {W w w1 : World} {tb : Nat} {nm : ByteArray} {sg : Bool} {k : Nat} {v : Value} {xs : List Value} {vn : Nat → ByteArray} {vv : Nat → Int} (st : EnmSt W tb nm sg k v xs vn vv w) {o : Obj} {a b : UInt8} {z : Int} (hz : 0 ≤ z ∧ z < 256)
    {g cap : Nat} (ha : Appended (w.alloc o) (tb + 1) 56 5 v k 1 xs [.string ⟨#[a, b]⟩, .pointer none, .int .i64 0, .int .i64 0, .int .i64 z] g cap w1) :
    EnmSt W tb nm sg (k + 1) (.slice (some ⟨g, 0, none⟩) (k + 1) cap) (xs ++ [.string ⟨#[a, b]⟩, .pointer none, .int .i64 0, .int .i64 0, .int .i64 z]) (upd vn k ⟨#[a, b]⟩) (upd vv k z)
      (w1.setCell ⟨tb, 5, none⟩ (.slice (some ⟨g, 0, none⟩) (k + 1) cap)) := by
  have hlo : tb + 1 ≤ g := by
    have := ha.1.lt g rfl; omega
  have hl := st.own.1
  have hT := ((st.blk.alloc o).app ha (st.own.alloc o) (Nat.lt_succ_self _)).set 5 (.slice (some ⟨g, 0, none⟩) (k + 1) cap)
  refine ⟨hT, ownsRow_setCell ha.1 (fun x => by simp [Value.ownBlock] at x; omega) _, ?_, ?_, ?_, st.lo⟩
  · intro i hi
    by_cases h : i < k
    · rw [upd_other _ _ h, upd_other _ _ h]; exact (st.row i h).left hl h
    · obtain rfl : i = k := by omega
      rw [upd_same, upd_same]; exact PRow.last _ _ _ _ _ hl
  · intro i hi
    by_cases h : i < k
    · rw [upd_other _ _ h, upd_other _ _ h]; exact st.ok i h
    · obtain rfl : i = k := by omega
      rw [upd_same, upd_same]; exact ⟨rfl, hz⟩
  · have hs := st.old.size
    exact (ha.below (st.own.alloc o) (st.old.alloc hs _) (by simp; omega) (by have := st.lo; omega)).setCell st.lo _
theorem EnmSt.done {W w : World} {tb : Nat} {nm : ByteArray} {sg : Bool} {k : Nat} {v : Value} {xs : List Value} {vn : Nat → ByteArray} {vv : Nat → Int} (st : EnmSt W tb nm sg k v xs vn vv w) (h1 : 1 ≤ k) (h4 : k ≤ 4) (hn : nm.size ≤ 2) :
    Made W EnmT (.returned (.pointer (some ⟨tb, 0, none⟩))) w :=
  ⟨tb, _, rfl, .enm st.blk (Nat.not_lt.2 st.lo) (ownsRow_base st.own (Nat.zero_le _)) (fun g hg => Nat.not_lt.2 (by have := (st.own.lt g hg).1; have := st.lo; omega)) st.row, ⟨nm, sg, k, vn, vv, rfl, h1, h4, hn, st.ok⟩, st.old⟩
theorem EnmSt.start (W w : World) (nm : ByteArray) (sg : Bool) (hb : Below W.heap.size W w) {tb : Nat} (htb : tb = w.heap.size) :
    EnmSt W tb nm sg 0 (.slice none 0 0) [] (fun _ => ⟨#[]⟩) (fun _ => 0) (w.alloc (.cells #[.int .i64 6, .string nm, .int .i64 4, .bool sg, .pointer none, .slice none 0 0] 38)) := by
  subst htb
  exact ⟨Blk.new _ _ _, World.ownsRow_nil _ _ _ _, fun i h => by omega, fun i h => by omega, hb.alloc hb.size _, hb.size⟩

set_option maxRecDepth 100000 in
set_option maxHeartbeats 1000000 in
theorem enumOf_any (n : Nat) (w : World) (hn : n < 4294967296) :
    Calls Tryz.prog 19 #[.int .u32 n] w (Made w EnmT) := by
  have hn3 : (1 + n / 8 % 4) ≤ 4 := by omega
  rcases (by omega : (n : Int) % 4 = 0 ∨ (n : Int) % 4 = 1 ∨ (n : Int) % 4 = 2 ∨ (n : Int) % 4 = 3) with h | h | h | h
  all_goals
    go_enter Tryz.func19, Tryz.ntmps19
    go_wp2
    go_loopw [20] (fun i wr => ∃ nm : ByteArray, nm.size ≤ 2 ∧ EnmLoop w (w.heap.size + 1) nm (bits BinOp.and IntKind.u32 (↑n / 4) 1 == 1) (1 + n / 8 % 4) i wr) (fun i _ => (1 + n / 8 % 4) - (intOf i).toNat)
    case atStart => exact ⟨_, (by decide), 0, _, _, _, _, EnmSt.start w _ _ _ ((Below.refl _ _).alloc (Nat.le_refl _) _) (by simp), Nat.zero_le _, rfl⟩
    case round =>
      obtain ⟨nm, hnm, k, v, xs, vn, vv, st, hk, rfl⟩ := hrel
      by_cases hlt : k < 1 + n / 8 % 4
      · have hc := st.blk.cell 5
        have hf := st.blk.free 5
        simp only [List.getElem?_toArray, List.getElem?_cons_succ, List.getElem?_cons_zero] at hc
        obtain ⟨c, hen0⟩ := enc_digit ((k + n / 32) % 6) (by omega) (by omega)
        have hen : True → Utf8.encode (48 + ((k : Int) + n / 32) % 6) = ⟨#[c]⟩ := fun _ => hen0
        clear hen0
        have hadd := fun wx => string_add2 wx 86 c
        have hq : (n : Int) / 2 ^ (6 + k) = ((n / 2 ^ (6 + k) : Nat) : Int) := by simp
        have hq2 : n / 2 ^ (6 + k) < 4294967296 := Nat.lt_of_le_of_lt (Nat.div_le_self _ _) hn
        generalize n / 2 ^ (6 + k) = q at hq hq2
        have hm := u32_mask255 (q : Int) (by omega) (by omega)
        go_wp2_with (at_builtin; refine wpList_app elemParts (.tmp 27) (.tmp 44) rfl rfl (w.heap.size + 1 + 1) v k xs rfl (st.own.alloc _) wr.heap.size 1 1 _ rfl (Blk.new _ _ _) rfl rfl (by decide) ?_ ?h1 ?h2 ?h3; intro g cap w1 ha; have hc1 := ((st.blk.alloc _).app ha (st.own.alloc _) (Nat.lt_succ_self _)).cell 5; have hf1 := ((st.blk.alloc _).app ha (st.own.alloc _) (Nat.lt_succ_self _)).free 5; simp only [List.getElem?_toArray, List.getElem?_cons_succ, List.getElem?_cons_zero] at hc1; clear hc hf hm)
        case h1 => omega
        case h2 => unfold maxLen; omega
        case h3 => have := st.blk.lt; simp; omega
        go_roundw
        case rel =>
          exact ⟨nm, hnm, k + 1, _, _, _, _, st.step (by omega) ha, hlt, by go_num⟩
        case measure => simp [intOf]; omega
      · have hk2 : k = 1 + n / 8 % 4 := by omega
        have Hk := Lib.hid hk2
        clear hk2
        go_wp2
        go_ret
        exact st.done (by have := Hk.out; omega) (by omega) hnm

#print axioms intOf_any
#print axioms enumOf_any
end Go.Proofs.YtfilbgmbmlmdbaaGreatDoor
