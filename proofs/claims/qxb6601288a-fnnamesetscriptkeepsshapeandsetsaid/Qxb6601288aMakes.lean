/-
  THE FUNCTIONS THAT MAKE A SLICE: copyStrings, copyBools, setModel, withoutString.
-/
import Derived.Test.Qxb6601288aReads
import Derived.Maps.AppendAt
namespace Go.Proofs.Qxb6601288a
open Go.RowKit

theorem Try.info9 : (Try.prog.info? 9).map (fun i => (i.zero, i.size, i.bytes)) = some (some (.string ByteArray.empty), 1, 16) := by kernel_rfl
theorem Try.info4 : (Try.prog.info? 4).map (fun i => (i.zero, i.size, i.bytes)) = some (some (.bool false), 1, 1) := by kernel_rfl

theorem eqNil22 (w : World) (a : Option Addr) (n c : Nat) : (binOp .eql 22 (.slice a n c) (.slice none 0 0)).run Try.prog w = .ok (.bool a.isNone) w := Lib.run_eql_slice_nil w 22 9 a n c 0 0 Try.underlying22
theorem neNil22 (w : World) (a : Option Addr) (n c : Nat) : (binOp .neq 22 (.slice a n c) (.slice none 0 0)).run Try.prog w = .ok (.bool (!a.isNone)) w := run_neq_slice_nil_any w 22 9 a n c 0 0 Try.underlying22
theorem eqNil35 (w : World) (a : Option Addr) (n c : Nat) : (binOp .eql 35 (.slice a n c) (.slice none 0 0)).run Try.prog w = .ok (.bool a.isNone) w := Lib.run_eql_slice_nil w 35 4 a n c 0 0 Try.underlying35

/-- A slice value that owns a row of strings. -/
abbrev Own (w : World) (base : Nat) (v : Value) (ss : List ByteArray) : Prop := w.ownsRow base 9 1 v ss.length (ss.map Value.string)

theorem Own.strs {w : World} {base : Nat} {v : Value} {ss : List ByteArray} (h : Own w base v ss) : ∃ a cap, v = .slice a ss.length cap ∧ Strs w a ss.length ss ∧ ss.length ≤ maxLen ∧ ss.length ≤ cap ∧ cap ≤ maxLen ∧ v.ownBlock = a.map (·.block) := by
  rcases h.2 with ⟨rfl, h0⟩ | ⟨g, cap, cur, rfl, hb, hg, hn, hm, hs, ht⟩
  · rw [h0]
    obtain rfl : ss = [] := List.length_eq_zero_iff.1 h0
    exact ⟨none, 0, rfl, ⟨rfl, .inl rfl⟩, by simp, by simp, by simp, rfl⟩
  · refine ⟨some ⟨g, 0, none⟩, cap, rfl, ⟨rfl, .inr ⟨g, 0, rfl, fun i hi => ?_⟩⟩, Nat.le_trans hn hm, hn, hm, rfl⟩
    have h1 := h.cellAt (g := g) i (by omega)
    rw [Nat.zero_add, h1]
    simp [hi]

def rowAt (ss : List ByteArray) (k : Nat) : List Value := (ss.take k).map Value.string ++ List.replicate (ss.length - k) (.string ByteArray.empty)

theorem rowAt_zero (ss : List ByteArray) : rowAt ss 0 = (madeCells (Value.string ByteArray.empty).cells (ss.length * 1)).toList := by
  simp [rowAt, Value.cells, toList_madeCells_one]

theorem rowAt_len (ss : List ByteArray) : rowAt ss ss.length = ss.map Value.string := by simp [rowAt]

theorem rowAt_set (ss : List ByteArray) (k : Nat) (h : k < ss.length) : (rowAt ss k).set k (.string (ss.getD k ByteArray.empty)) = rowAt ss (k + 1) := by
  unfold rowAt
  rw [List.set_append_right _ _ (by simp; omega), take_succ_getD ss k h]
  have e : ss.length - k = (ss.length - (k + 1)) + 1 := by omega
  simp [show min k ss.length = k by omega, e, List.replicate_succ]

theorem rowAt_get (ss : List ByteArray) (k : Nat) (h : k < ss.length) : (rowAt ss k)[k]? = some (.string ByteArray.empty) := by
  unfold rowAt
  rw [List.getElem?_append_right (by simp; omega)]
  rw [List.getElem?_replicate]
  simp [show min k ss.length = k by omega]
  omega

set_option maxHeartbeats 400000 in
theorem copy_nil (n c : Nat) (w : World) : Calls Try.prog 11 #[.slice none n c] w fun e w' => e = .returned (.slice none 0 0) ∧ w = w' := by
  have h22 := eqNil22
  go_enter Try.func11, Try.ntmps11
  go_wp2
  go_ret
  exact ⟨rfl, rfl⟩

set_option maxHeartbeats 400000 in
theorem copy_some (x : Addr) (cap : Nat) (ss : List ByteArray) (w : World) (hl : ss.length ≤ 4096) (hs : Strs w (some x) ss.length ss) :
    Calls Try.prog 11 #[.slice (some x) ss.length cap] w fun e w' => e = .returned (.slice (some ⟨w.heap.size, 0, none⟩) ss.length ss.length) ∧
      Own w' w.heap.size (.slice (some ⟨w.heap.size, 0, none⟩) ss.length ss.length) ss ∧ Below w.heap.size w w' := by
  have h22 := eqNil22
  obtain ⟨i0, hi, hz0, hz1, hz2⟩ := info_parts Try.info9
  go_enter Try.func11, Try.ntmps11
  go_wp2_with (at_make; refine wpList_make_full _ rfl _ _ 22 rfl w.heap.size 9 i0 (.string ByteArray.empty) 1 Try.underlying22 hi hz0 hz1 .i64 .i64 _ _ ss.length rfl rfl rfl rfl (by rw [hz2]; omega) (by unfold maxLen; omega) (Nat.le_refl _) ?_; intro w1 hown hgr)
  go_loopw [4] (fun i wr => ∃ k : Nat, k ≤ ss.length ∧ i = .int .i64 k ∧ wr.ownsRow w.heap.size 9 1 (.slice (some ⟨w.heap.size, 0, none⟩) ss.length ss.length) ss.length (rowAt ss k) ∧ Below w.heap.size w wr) (fun i _ => ss.length - (intOf i).toNat)
  case atStart => exact ⟨0, Nat.zero_le _, rfl, by rw [rowAt_zero]; exact hown, (Below.refl _ _).grown hgr (Nat.le_refl _) (fun _ h => by cases h)⟩
  case round =>
    obtain ⟨k, hk, rfl, hownr, hb⟩ := hrel
    clear hown hgr
    by_cases hlt : k < ss.length
    · obtain ⟨b, off, he, hcell⟩ := (hs.ext hb).at k hlt
      cases he
      obtain ⟨s, hse⟩ : ∃ s, s = ss.getD k ByteArray.empty := ⟨_, rfl⟩
      rw [← hse] at hcell
      have HS : Hid (s = ss.getD k ByteArray.empty) := hse
      clear hse
      have hc2 := hownr.cellAt k (by omega)
      rw [rowAt_get ss k hlt] at hc2
      have hf2 := hownr.frozenAt k
      have hst := hownr.stored k (.string s)
      clear hs
      go_wp2
      go_roundw
      case rel => exact ⟨k + 1, by omega, by go_num, by have h1 := rowAt_set ss k hlt; rw [← HS.out] at h1; rw [← h1]; exact hst.1, hb.setCell (Nat.le_refl _) _⟩
      case measure => simp [intOf]; omega
    · have hke : k = ss.length := by omega
      subst hke
      rw [rowAt_len] at hownr
      go_wp2
      go_ret
      exact ⟨rfl, hownr, hb⟩

/-! ### bools -/
/-- The slice value '.slice a len _' reads as the bools bs in the world w. -/
def Bools (w : World) (a : Option Addr) (len : Nat) (bs : List Bool) : Prop :=
  len = bs.length ∧ (bs = [] ∨ ∃ b off, a = some ⟨b, off, none⟩ ∧ ∀ i, i < bs.length → w.cell? ⟨b, off + i, none⟩ = some (.bool (bs.getD i false)))

theorem Bools.lt {w : World} {a : Option Addr} {len : Nat} {bs : List Bool} (h : Bools w a len bs) : ∀ x, a = some x → bs ≠ [] → x.block < w.heap.size := by
  intro x hx h0
  rcases h.2 with h1 | ⟨b, off, rfl, hc⟩
  · exact absurd h1 h0
  · cases hx
    exact World.block_lt_of_cell? w _ (hc 0 (List.length_pos_iff.2 h0))

theorem Bools.keep {w w' : World} {a : Option Addr} {len : Nat} {bs : List Bool} (h : Bools w a len bs) (hk : ∀ x, a = some x → bs ≠ [] → w'.heap[x.block]? = w.heap[x.block]?) : Bools w' a len bs := by
  refine ⟨h.1, ?_⟩
  rcases h.2 with h0 | ⟨b, off, rfl, hc⟩
  · exact .inl h0
  · by_cases h0 : bs = []
    · exact .inl h0
    · exact .inr ⟨b, off, rfl, fun i hi => (World.cell?_of_block (a := ⟨b, off + i, none⟩) (hk ⟨b, off, none⟩ rfl h0)).trans (hc i hi)⟩

theorem Bools.ext {w w' : World} {a : Option Addr} {len : Nat} {bs : List Bool} (h : Bools w a len bs) (hb : Below w.heap.size w w') : Bools w' a len bs :=
  h.keep fun x hx h0 => hb.block _ (h.lt x hx h0)

theorem Bools.at {w : World} {a : Option Addr} {bs : List Bool} (hs : Bools w a bs.length bs) : ∀ k, k < bs.length → ∃ b off, a = some ⟨b, off, none⟩ ∧ w.cell? ⟨b, off + k, none⟩ = some (.bool (bs.getD k false)) := by
  intro k hk
  rcases hs.2 with rfl | ⟨b, off, rfl, hc⟩
  · simp at hk
  · exact ⟨b, off, rfl, hc k hk⟩

def browAt (bs : List Bool) (k : Nat) : List Value := (bs.take k).map Value.bool ++ List.replicate (bs.length - k) (.bool false)

theorem browAt_zero (bs : List Bool) : browAt bs 0 = (madeCells (Value.bool false).cells (bs.length * 1)).toList := by
  simp [browAt, Value.cells, toList_madeCells_one]

theorem browAt_len (bs : List Bool) : browAt bs bs.length = bs.map Value.bool := by simp [browAt]

theorem btake_succ_getD (bs : List Bool) (k : Nat) (h : k < bs.length) : bs.take (k + 1) = bs.take k ++ [bs.getD k false] := by
  rw [List.take_succ_eq_append_getElem h]
  simp [List.getD, h]

theorem browAt_set (bs : List Bool) (k : Nat) (h : k < bs.length) : (browAt bs k).set k (.bool (bs.getD k false)) = browAt bs (k + 1) := by
  unfold browAt
  rw [List.set_append_right _ _ (by simp; omega), btake_succ_getD bs k h]
  have e : bs.length - k = (bs.length - (k + 1)) + 1 := by omega
  simp [show min k bs.length = k by omega, e, List.replicate_succ]

theorem browAt_get (bs : List Bool) (k : Nat) (h : k < bs.length) : (browAt bs k)[k]? = some (.bool false) := by
  unfold browAt
  rw [List.getElem?_append_right (by simp; omega)]
  rw [List.getElem?_replicate]
  simp [show min k bs.length = k by omega]
  omega

theorem Bools.of_owns {w : World} {base g cap : Nat} {bs : List Bool} (h : w.ownsRow base 4 1 (.slice (some ⟨g, 0, none⟩) bs.length cap) bs.length (bs.map Value.bool)) : Bools w (some ⟨g, 0, none⟩) bs.length bs := by
  refine ⟨rfl, .inr ⟨g, 0, rfl, fun i hi => ?_⟩⟩
  have h1 := h.cellAt (g := g) i (by omega)
  rw [Nat.zero_add, h1]
  simp [hi]

set_option maxHeartbeats 400000 in
theorem copyB_nil (n c : Nat) (w : World) : Calls Try.prog 24 #[.slice none n c] w fun e w' => e = .returned (.slice none 0 0) ∧ w = w' := by
  have h22 := eqNil35
  go_enter Try.func24, Try.ntmps24
  go_wp2
  go_ret
  exact ⟨rfl, rfl⟩

set_option maxHeartbeats 400000 in
theorem copyB_some (x : Addr) (cap : Nat) (ss : List Bool) (w : World) (hl : ss.length ≤ 4096) (hs : Bools w (some x) ss.length ss) :
    Calls Try.prog 24 #[.slice (some x) ss.length cap] w fun e w' => e = .returned (.slice (some ⟨w.heap.size, 0, none⟩) ss.length ss.length) ∧
      Bools w' (some ⟨w.heap.size, 0, none⟩) ss.length ss ∧ Below w.heap.size w w' := by
  have h22 := eqNil35
  obtain ⟨i0, hi, hz0, hz1, hz2⟩ := info_parts Try.info4
  go_enter Try.func24, Try.ntmps24
  go_wp2_with (at_make; refine wpList_make_full _ rfl _ _ 35 rfl w.heap.size 4 i0 (.bool false) 1 Try.underlying35 hi hz0 hz1 .i64 .i64 _ _ ss.length rfl rfl rfl rfl (by rw [hz2]; omega) (by unfold maxLen; omega) (Nat.le_refl _) ?_; intro w1 hown hgr)
  go_loopw [4] (fun i wr => ∃ k : Nat, k ≤ ss.length ∧ i = .int .i64 k ∧ wr.ownsRow w.heap.size 4 1 (.slice (some ⟨w.heap.size, 0, none⟩) ss.length ss.length) ss.length (browAt ss k) ∧ Below w.heap.size w wr) (fun i _ => ss.length - (intOf i).toNat)
  case atStart => exact ⟨0, Nat.zero_le _, rfl, by rw [browAt_zero]; exact hown, (Below.refl _ _).grown hgr (Nat.le_refl _) (fun _ h => by cases h)⟩
  case round =>
    obtain ⟨k, hk, rfl, hownr, hb⟩ := hrel
    clear hown hgr
    by_cases hlt : k < ss.length
    · obtain ⟨b, off, he, hcell⟩ := (hs.ext hb).at k hlt
      cases he
      obtain ⟨s, hse⟩ : ∃ s, s = ss.getD k false := ⟨_, rfl⟩
      rw [← hse] at hcell
      have HS : Hid (s = ss.getD k false) := hse
      clear hse
      have hc2 := hownr.cellAt k (by omega)
      rw [browAt_get ss k hlt] at hc2
      have hf2 := hownr.frozenAt k
      have hst := hownr.stored k (.bool s)
      clear hs
      go_wp2
      go_roundw
      case rel => exact ⟨k + 1, by omega, by go_num, by have h1 := browAt_set ss k hlt; rw [← HS.out] at h1; rw [← h1]; exact hst.1, hb.setCell (Nat.le_refl _) _⟩
      case measure => simp [intOf]; omega
    · have hke : k = ss.length := by omega
      subst hke
      rw [browAt_len] at hownr
      go_wp2
      go_ret
      exact ⟨rfl, Bools.of_owns hownr, hb⟩

/-! ### the model -/
/-- A name that is not yet there goes to the end. -/
def addN (m : List ByteArray) (x : ByteArray) : List ByteArray := if inB m x then m else m ++ [x]
/-- Each name once, in the order of its first place. -/
def modelOf (ss : List ByteArray) : List ByteArray := ss.foldl addN []

theorem modelOf_snoc (ss : List ByteArray) (x : ByteArray) : modelOf (ss ++ [x]) = addN (modelOf ss) x := by simp [modelOf, List.foldl_append]

theorem modelOf_take (ss : List ByteArray) (k : Nat) (h : k < ss.length) : modelOf (ss.take (k + 1)) = addN (modelOf (ss.take k)) (ss.getD k ByteArray.empty) := by
  rw [take_succ_getD ss k h, modelOf_snoc]

theorem addN_old {m : List ByteArray} {x : ByteArray} (h : inB m x = true) : addN m x = m := by simp [addN, h]
theorem addN_new {m : List ByteArray} {x : ByteArray} (h : inB m x = false) : addN m x = m ++ [x] := by simp [addN, h]
theorem addN_len (m : List ByteArray) (x : ByteArray) : (addN m x).length ≤ m.length + 1 := by
  unfold addN; split <;> simp

theorem fold_len : ∀ (ss m : List ByteArray), (ss.foldl addN m).length ≤ m.length + ss.length
  | [], m => by simp
  | x :: r, m => by
    have h1 := fold_len r (addN m x)
    have h2 := addN_len m x
    simp only [List.foldl_cons, List.length_cons]
    omega
theorem modelOf_len (ss : List ByteArray) : (modelOf ss).length ≤ ss.length := by simpa [modelOf] using fold_len ss []

theorem mem_addN {m : List ByteArray} {x y : ByteArray} : y ∈ addN m x ↔ y ∈ m ∨ y = x := by
  cases h : inB m x
  · rw [addN_new h]; simp
  · rw [addN_old h]
    have := inB_true.1 h
    constructor
    · exact .inl
    · rintro (h | rfl)
      · exact h
      · exact this

theorem nodup_addN {m : List ByteArray} {x : ByteArray} (hm : m.Nodup) : (addN m x).Nodup := by
  cases h : inB m x
  · rw [addN_new h, List.nodup_append]
    refine ⟨hm, by simp, ?_⟩
    intro a ha b hb e
    simp at hb
    subst hb
    subst e
    exact inB_false.1 h ha
  · rw [addN_old h]; exact hm

theorem mem_fold : ∀ (ss m : List ByteArray) (y : ByteArray), y ∈ ss.foldl addN m ↔ y ∈ m ∨ y ∈ ss
  | [], m, y => by simp
  | x :: r, m, y => by rw [List.foldl_cons, mem_fold r, mem_addN]; simp [or_assoc]
theorem mem_modelOf {ss : List ByteArray} {y : ByteArray} : y ∈ modelOf ss ↔ y ∈ ss := by simp [modelOf, mem_fold]

theorem nodup_fold : ∀ (ss m : List ByteArray), m.Nodup → (ss.foldl addN m).Nodup
  | [], _, h => h
  | x :: r, m, h => nodup_fold r (addN m x) (nodup_addN h)
theorem nodup_modelOf (ss : List ByteArray) : (modelOf ss).Nodup := nodup_fold ss [] (by simp)

theorem fold_same : ∀ (ss m : List ByteArray), (m ++ ss).Nodup → ss.foldl addN m = m ++ ss
  | [], m, _ => by simp
  | x :: r, m, h => by
    have hx : inB m x = false := by
      rw [inB_false]
      intro hm
      exact (List.nodup_append.1 h).2.2 x hm x (by simp) rfl
    rw [List.foldl_cons, addN_new hx, fold_same r (m ++ [x]) (by simpa using h)]
    simp
theorem modelOf_same {ss : List ByteArray} (h : ss.Nodup) : modelOf ss = ss := by
  have := fold_same ss [] (by simpa using h)
  simpa [modelOf] using this

theorem one_string (s : ByteArray) : ∀ u ∈ [Value.string s], u.oneCell' = true := by
  intro u hu
  simp at hu
  subst hu
  rfl

theorem below_append {B : Nat} {w wr w2 : World} {v : Value} {o : Obj} {n : Nat} {xs : List Value} (hb : Below B w wr) (hB : B ≤ w.heap.size) (hown : wr.ownsRow B 9 1 v n xs) (hg : (wr.alloc o).grownBy w2 v.ownBlock) : Below B w w2 :=
  (hb.alloc (Nat.le_trans hB hb.size) o).grown hg (by have := hb.size; simp; omega) (fun k hk => (hown.lt k hk).1)

theorem own_addN {B : Nat} {w2 : World} {v : Value} {M : List ByteArray} {s : ByteArray} (h : (!inB M s) = true) (hown : w2.ownsRow B 9 1 v (M.length + 1) (M.map Value.string ++ [Value.string s])) : Own w2 B v (addN M s) := by
  have h' : inB M s = false := by simpa using h
  rw [addN_new h']
  unfold Own
  simpa using hown

set_option maxHeartbeats 800000 in
theorem model_any (a0 a1 : Option Addr) (cap0 cap1 : Nat) (s0 s1 : List ByteArray) (w : World) (hl0 : s0.length ≤ 4096) (hl1 : s1.length ≤ 4096) (h0 : Strs w a0 s0.length s0) (h1 : Strs w a1 s1.length s1) :
    Calls Try.prog 12 #[.slice a0 s0.length cap0, .slice a1 s1.length cap1] w fun e w' => ∃ v, e = .returned v ∧ Own w' w.heap.size v (modelOf (s0 ++ s1)) ∧ Below w.heap.size w w' := by
  obtain ⟨i0, hi, hz0, hz1, hz2⟩ := info_parts Try.info9
  go_enter Try.func12, Try.ntmps12
  go_wp2_with (at_make; refine wpList_make_own _ rfl _ _ 22 rfl w.heap.size 9 i0 (.string ByteArray.empty) 1 Try.underlying22 hi hz0 hz1 .i64 .i64 _ (s0.length + s1.length + 1) rfl rfl (by omega) (by rw [hz2]; omega) (by unfold maxLen; omega) (Nat.le_refl _) ?_; intro w1 hown hgr)
  go_loopw [5, 6] (fun v i wr => ∃ k : Nat, k ≤ s0.length ∧ i = .int .i64 k ∧ Own wr w.heap.size v (modelOf (s0.take k)) ∧ Below w.heap.size w wr) (fun _ i _ => s0.length - (intOf i).toNat)
  case atStart => exact ⟨0, Nat.zero_le _, rfl, hown, (Below.refl _ _).grown hgr (Nat.le_refl _) (fun _ h => by cases h)⟩
  case round =>
    obtain ⟨k, hk, rfl, hownr, hb⟩ := hrel
    clear hown hgr
    by_cases hlt : k < s0.length
    · obtain ⟨b, off, rfl, hcell⟩ := (h0.ext hb).at k hlt
      obtain ⟨s, hse⟩ : ∃ s, s = s0.getD k ByteArray.empty := ⟨_, rfl⟩
      obtain ⟨M, hM⟩ : ∃ M, M = modelOf (s0.take k) := ⟨_, rfl⟩
      have hstep := modelOf_take s0 k hlt
      have hml := modelOf_len (s0.take k)
      have htl := List.length_take_le k s0
      rw [← hse] at hcell hstep
      rw [← hM] at hownr hstep hml
      have HS : Hid (modelOf (s0.take (k + 1)) = addN M s) := hstep
      clear hse hM hstep
      have hml' : M.length ≤ k := by omega
      obtain ⟨a, cap, rfl, hst, hsm, -⟩ := Own.strs hownr
      go_wp2_with (first
        | (go_at_call 13; refine (has_any _ _ _ _ _ _ hsm hst).mono ?_; rintro e w' ⟨rfl, rfl⟩)
        | (at_builtin; refine wpList_append_own _ rfl _ _ 22 rfl w.heap.size 9 i0 (.string ByteArray.empty) 1 16 Try.underlying22 hi hz0 hz1 hz2 rfl (by decide) _ _ _ rfl (hownr.alloc _) ⟨wr.heap.size, 0, none⟩ 1 1 [.string s] rfl rfl (cell_one_new _ _ _) (one_string s) (by unfold maxLen; omega) (by omega) (by have := hb.size; simp; omega) ?_; intro v' w2 hown' hgrow hnil))
      · go_roundw
        case rel => exact ⟨k + 1, by omega, by go_num, by rw [HS.out]; exact own_addN ‹_› hown', below_append hb (Nat.le_refl _) hownr hgrow⟩
        case measure => simp [intOf]; omega
      · have hin : (!inB M s) = false := by assumption
        have hin' : inB M s = true := by simpa using hin
        go_roundw
        case rel => exact ⟨k + 1, by omega, by go_num, by rw [HS.out, addN_old hin']; exact hownr, hb⟩
        case measure => simp [intOf]; omega
    · rw [List.take_of_length_le (by omega)] at hownr
      clear h0
      go_wp2
      go_loopw [5, 7] (fun v i wx => ∃ k : Nat, k ≤ s1.length ∧ i = .int .i64 k ∧ Own wx w.heap.size v (modelOf (s0 ++ s1.take k)) ∧ Below w.heap.size w wx) (fun _ i _ => s1.length - (intOf i).toNat)
      case atStart => exact ⟨0, Nat.zero_le _, rfl, by simpa using hownr, hb⟩
      case round =>
        clear hownr hb hlt hk
        obtain ⟨k, hk, rfl, hownr, hb⟩ := hrel
        by_cases hlt : k < s1.length
        · obtain ⟨b, off, rfl, hcell⟩ := (h1.ext hb).at k hlt
          obtain ⟨s, hse⟩ : ∃ s, s = s1.getD k ByteArray.empty := ⟨_, rfl⟩
          obtain ⟨M, hM⟩ : ∃ M, M = modelOf (s0 ++ s1.take k) := ⟨_, rfl⟩
          have hstep : modelOf (s0 ++ s1.take (k + 1)) = addN (modelOf (s0 ++ s1.take k)) (s1.getD k ByteArray.empty) := by
            rw [take_succ_getD s1 k hlt, ← List.append_assoc, modelOf_snoc]
          have hml := modelOf_len (s0 ++ s1.take k)
          have htl := List.length_take_le k s1
          rw [List.length_append] at hml
          rw [← hse] at hcell hstep
          rw [← hM] at hownr hstep hml
          have HS : Hid (modelOf (s0 ++ s1.take (k + 1)) = addN M s) := hstep
          clear hse hM hstep
          have hml' : M.length ≤ 4096 + k := by omega
          clear hml htl
          obtain ⟨a, cap, rfl, hst, hsm, -⟩ := Own.strs hownr
          go_wp2_with (first
            | (go_at_call 13; refine (has_any _ _ _ _ _ _ hsm hst).mono ?_; rintro e w' ⟨rfl, rfl⟩)
            | (at_builtin; refine wpList_append_own _ rfl _ _ 22 rfl w.heap.size 9 i0 (.string ByteArray.empty) 1 16 Try.underlying22 hi hz0 hz1 hz2 rfl (by decide) _ _ _ rfl (hownr.alloc _) ⟨wr.heap.size, 0, none⟩ 1 1 [.string s] rfl rfl (cell_one_new _ _ _) (one_string s) (by unfold maxLen; omega) (by omega) (by have := hb.size; simp; omega) ?_; intro v' w2 hown' hgrow hnil))
          · go_roundw
            case rel => exact ⟨k + 1, by omega, by go_num, by rw [HS.out]; exact own_addN ‹_› hown', below_append hb (Nat.le_refl _) hownr hgrow⟩
            case measure => simp [intOf]; omega
          · have hin : (!inB M s) = false := by assumption
            have hin' : inB M s = true := by simpa using hin
            go_roundw
            case rel => exact ⟨k + 1, by omega, by go_num, by rw [HS.out, addN_old hin']; exact hownr, hb⟩
            case measure => simp [intOf]; omega
        · rw [List.take_of_length_le (by omega)] at hownr
          go_wp2
          go_ret
          exact ⟨_, rfl, hownr, hb⟩

/-! ### withoutString -/
/-- ss without x. -/
def without (ss : List ByteArray) (x : ByteArray) : List ByteArray := ss.filter fun s => !decide (s = x)

theorem without_take_hit {ss : List ByteArray} {x s : ByteArray} {k : Nat} (h : k < ss.length) (hs : s = ss.getD k ByteArray.empty) (ht : (s.toList == x.toList) = true) : without (ss.take (k + 1)) x = without (ss.take k) x := by
  have := eq_of_beq ht
  rw [take_succ_getD ss k h, ← hs]
  simp [without, this]

theorem without_take_miss {ss : List ByteArray} {x s : ByteArray} {k : Nat} (h : k < ss.length) (hs : s = ss.getD k ByteArray.empty) (ht : (s.toList == x.toList) = false) : without (ss.take (k + 1)) x = without (ss.take k) x ++ [s] := by
  have := ne_of_beq ht
  rw [take_succ_getD ss k h, ← hs]
  simp [without, this]

theorem without_len (ss : List ByteArray) (x : ByteArray) : (without ss x).length ≤ ss.length := List.length_filter_le _ _

theorem mem_without {ss : List ByteArray} {x y : ByteArray} : y ∈ without ss x ↔ y ∈ ss ∧ y ≠ x := by simp [without]

theorem nodup_without {ss : List ByteArray} {x : ByteArray} (h : ss.Nodup) : (without ss x).Nodup := h.filter _

set_option maxHeartbeats 800000 in
theorem without_any (a0 : Option Addr) (cap0 : Nat) (ss : List ByteArray) (x : ByteArray) (w : World) (hl0 : ss.length ≤ 16384) (h0 : Strs w a0 ss.length ss) :
    Calls Try.prog 20 #[.slice a0 ss.length cap0, .string x] w fun e w' => ∃ v, e = .returned v ∧ Own w' w.heap.size v (without ss x) ∧ Below w.heap.size w w' := by
  obtain ⟨i0, hi, hz0, hz1, hz2⟩ := info_parts Try.info9
  go_enter Try.func20, Try.ntmps20
  go_wp2_with (at_make; refine wpList_make_own _ rfl _ _ 22 rfl w.heap.size 9 i0 (.string ByteArray.empty) 1 Try.underlying22 hi hz0 hz1 .i64 .i64 _ ss.length rfl rfl (by omega) (by rw [hz2]; omega) (by unfold maxLen; omega) (Nat.le_refl _) ?_; intro w1 hown hgr)
  go_loopw [5, 6] (fun v i wr => ∃ k : Nat, k ≤ ss.length ∧ i = .int .i64 k ∧ Own wr w.heap.size v (without (ss.take k) x) ∧ Below w.heap.size w wr) (fun _ i _ => ss.length - (intOf i).toNat)
  case atStart => exact ⟨0, Nat.zero_le _, rfl, hown, (Below.refl _ _).grown hgr (Nat.le_refl _) (fun _ h => by cases h)⟩
  case round =>
    obtain ⟨k, hk, rfl, hownr, hb⟩ := hrel
    clear hown hgr
    by_cases hlt : k < ss.length
    · obtain ⟨b, off, rfl, hcell⟩ := (h0.ext hb).at k hlt
      obtain ⟨s, hse⟩ : ∃ s, s = ss.getD k ByteArray.empty := ⟨_, rfl⟩
      rw [← hse] at hcell
      have HS : Hid (s = ss.getD k ByteArray.empty) := hse
      clear hse
      obtain ⟨M, hM⟩ : ∃ M, M = without (ss.take k) x := ⟨_, rfl⟩
      have hml := without_len (ss.take k) x
      have htl := List.length_take_le k ss
      rw [← hM] at hownr hml
      have HM : Hid (M = without (ss.take k) x) := hM
      clear hM
      have hml' : M.length ≤ k := by omega
      clear hml htl
      obtain ⟨a, cap, rfl, -⟩ := Own.strs hownr
      go_wp2_with (at_builtin; refine wpList_append_own _ rfl _ _ 22 rfl w.heap.size 9 i0 (.string ByteArray.empty) 1 16 Try.underlying22 hi hz0 hz1 hz2 rfl (by decide) _ _ _ rfl (hownr.alloc _) ⟨wr.heap.size, 0, none⟩ 1 1 [.string s] rfl rfl (cell_one_new _ _ _) (one_string s) (by unfold maxLen; omega) (by omega) (by have := hb.size; simp; omega) ?_; intro v' w2 hown' hgrow hnil)
      · have hin : (!s.toList == x.toList) = true := by assumption
        have hst := without_take_miss hlt HS.out (by simpa using hin)
        rw [← HM.out] at hst
        go_roundw
        case rel => exact ⟨k + 1, by omega, by go_num, by rw [hst]; unfold Own; simpa using hown', below_append hb (Nat.le_refl _) hownr hgrow⟩
        case measure => simp [intOf]; omega
      · have hin : (!s.toList == x.toList) = false := by assumption
        have hst := without_take_hit hlt HS.out (by simpa using hin)
        rw [← HM.out] at hst
        go_roundw
        case rel => exact ⟨k + 1, by omega, by go_num, by rw [hst]; exact hownr, hb⟩
        case measure => simp [intOf]; omega
    · rw [List.take_of_length_le (by omega)] at hownr
      go_wp2
      go_ret
      exact ⟨_, rfl, hownr, hb⟩
end Go.Proofs.Qxb6601288a
