/-
  THE GROUP SET IN MEMORY; slot AND holds.
-/
import Derived.Test.Qxb6601295aRows
import Derived.Test.Qxb6601295aPlain
import Derived.WalkKit
import Derived.WalkSpells
import Derived.WalkLawsBesides
import Derived.WalkSmall
import Derived.Deep.QuietTactic
import Derived.BigQuiet
namespace Go.Proofs.Qxb6601295a
open Go.RowKit

theorem ret_bool {a b : Bool} (h : a = b) : Ending.returned (.bool a) = .returned (.bool b) := by rw [h]
theorem ret_int {k : IntKind} {a b : Int} (h : a = b) : Ending.returned (.int k a) = .returned (.int k b) := by rw [h]

/-! ### a table's size is a power of two -/
def Pow2 (C : Nat) : Prop := ∃ k, k ≤ 40 ∧ C = 2 ^ k

theorem Pow2.pos {C : Nat} (h : Pow2 C) : 0 < C := by obtain ⟨k, _, rfl⟩ := h; exact Nat.two_pow_pos k
theorem Pow2.le {C : Nat} (h : Pow2 C) : C ≤ 1099511627776 := by
  obtain ⟨k, hk, rfl⟩ := h
  exact Nat.pow_le_pow_right (by decide) hk
theorem pow2_32 : Pow2 32 := ⟨5, by decide, rfl⟩
theorem Pow2.double {C : Nat} (h : Pow2 C) (hl : C ≤ 1048576) : Pow2 (2 * C) := by
  obtain ⟨k, hk, rfl⟩ := h
  refine ⟨k + 1, ?_, by rw [Nat.pow_succ]; omega⟩
  rcases Nat.lt_or_ge k 40 with h1 | h1
  · omega
  · have : 2 ^ 40 ≤ 2 ^ k := Nat.pow_le_pow_right (by decide) h1
    omega

theorem mask_nat {C a : Nat} (h : Pow2 C) (ha : a < 9223372036854775808) : bits .and .i64 (a : Int) ((C : Int) - 1) = ((a % C : Nat) : Int) := by
  have hp := h.pos
  have hl := h.le
  have e1 : ((C : Int) - 1) = ((C - 1 : Nat) : Int) := by omega
  rw [e1]
  have e2 : a &&& (C - 1) = a % C := by obtain ⟨k, _, rfl⟩ := h; exact Nat.and_two_pow_sub_one_eq_mod a k
  have hm : a % C < C := Nat.mod_lt _ hp
  show IntKind.i64.wrap ((BitVec.ofInt 64 (a : Int) &&& BitVec.ofInt 64 ((C - 1 : Nat) : Int)).toNat : Int) = _
  rw [BitVec.toNat_and, ofInt_u64 a (by omega), ofInt_u64 (C - 1) (by omega), e2, IntKind.wrap_i64]
  omega

theorem mask_step {C i : Nat} (h : Pow2 C) (hi : i < C) : bits .and .i64 ((i : Int) + 1) ((C : Int) - 1) = (((i + 1) % C : Nat) : Int) := by
  have := h.le
  have e : (i : Int) + 1 = ((i + 1 : Nat) : Int) := by omega
  rw [e]
  exact mask_nat h (by omega)

/-! ### slot -/
/-- The slot that a word is sought from. -/
def hs (C : Nat) (p : Int) : Nat := (p * 11400714819323198485 % 18446744073709551616 / 4294967296).toNat % C

theorem hs_lt {C : Nat} (h : 0 < C) (p : Int) : hs C p < C := Nat.mod_lt _ h

theorem hs_eq {C : Nat} (h : Pow2 C) (p : Int) : bits .and .i64 (wrap64 (IntKind.u64.wrap (p * 11400714819323198485) / 4294967296)) ((C : Int) - 1) = (hs C p : Int) := by
  unfold hs
  rw [IntKind.wrap_u64]
  have h0 : 0 ≤ p * 11400714819323198485 % 18446744073709551616 := Int.emod_nonneg _ (by decide)
  have h1 : p * 11400714819323198485 % 18446744073709551616 < 18446744073709551616 := Int.emod_lt_of_pos _ (by decide)
  generalize p * 11400714819323198485 % 18446744073709551616 = x at *
  have h2 : wrap64 (x / 4294967296) = ((x / 4294967296).toNat : Int) := by
    rw [IntWalk.wrap64_in _ ⟨by omega, by omega⟩]
    omega
  rw [h2]
  exact mask_nat h (by omega)

set_option maxHeartbeats 400000 in
theorem slot_any (C : Nat) (p : Int) (w : World) (hC : Pow2 C) (hp : 0 ≤ p) (hp2 : p < 2147483648) :
    Calls Try.prog 56 #[.int .i32 p, .int .i64 ((C : Int) - 1)] w fun e w' => e = .returned (.int .i64 (hs C p)) ∧ w = w' := by
  have hl := hC.le
  have hpos := hC.pos
  go_enter Try.func56, Try.ntmps56
  go_wp2
  go_ret
  exact ⟨ret_int (hs_eq hC p), rfl⟩

/-! ### holds -/
theorem below_drewN' {B : Nat} {a w : World} (n : Nat) (h : Below B a w) : Below B a (w.drewN n) := ⟨h.os, h.tape, h.output, h.size, h.block⟩

set_option maxHeartbeats 400000 in
theorem holds_yes (p b o n : Nat) (w : World) (hn : n ≠ 0) (c2 : w.cell? ⟨b, o + 2, none⟩ = some (.int .u64 n)) (c1 : w.cell? ⟨b, o + 1, none⟩ = some (.int .u32 0)) (cs : w.cell? ⟨p, 26, none⟩ = some (.int .u32 0)) :
    Calls Try.prog 57 #[.pointer (some ⟨p, 0, none⟩), .pointer (some ⟨b, o, none⟩)] w fun e w' => e = .returned (.bool true) ∧ ∃ k, w' = w.drewN k := by
  have h1 : (((n : Nat) : Int) != 0) = true := by simpa using hn
  go_enter Try.func57, Try.ntmps57
  go_wp2
  go_quiet (fail)
  go_wp2
  go_ret
  exact ⟨rfl, _, rfl⟩

set_option maxHeartbeats 400000 in
theorem holds_no (p b o : Nat) (w : World) (c2 : w.cell? ⟨b, o + 2, none⟩ = some (.int .u64 0)) :
    Calls Try.prog 57 #[.pointer (some ⟨p, 0, none⟩), .pointer (some ⟨b, o, none⟩)] w fun e w' => e = .returned (.bool false) ∧ ∃ k, w' = w.drewN k := by
  go_enter Try.func57, Try.ntmps57
  go_wp2
  go_quiet (fail)
  go_wp2
  go_ret
  exact ⟨rfl, _, rfl⟩

/-! ### the memory -/
/-- The cells of one word, at offset o of a row. -/
def WordIn (cur : Array Value) (o : Nat) (v : Int × Nat) : Prop := cur[o]? = some (.int .i32 v.1) ∧ cur[o + 1]? = some (.int .u32 0) ∧ cur[o + 2]? = some (.int .u64 v.2)

/-- Block g is a hash table of C slots. -/
def TabAt (w : World) (g C : Nat) (T : Nat → Int × Nat) : Prop := ∃ cur : Array Value, w.heap[g]? = some (.cells cur 46 (0, 0)) ∧ cur.size = C * 3 ∧ ∀ i, i < C → WordIn cur (i * 3) (T i)

/-- Block p is a group set: eight words F, n words in use, the slice hv, round 0. -/
def SetAt (w : World) (p : Nat) (F : Nat → Int × Nat) (n : Nat) (hv : Value) : Prop := ∃ cur : Array Value, w.heap[p]? = some (.cells cur 50 (0, 0)) ∧ cur.size = 27 ∧ (∀ i, i < 8 → WordIn cur (i * 3) (F i)) ∧
  cur[24]? = some (.int .i64 n) ∧ cur[25]? = some hv ∧ cur[26]? = some (.int .u32 0)

section
variable {w w' : World} {p g C n : Nat} {F T : Nat → Int × Nat} {hv : Value}

theorem TabAt.keep (h : TabAt w g C T) (hb : w'.heap[g]? = w.heap[g]?) : TabAt w' g C T := by obtain ⟨cur, h1, r⟩ := h; exact ⟨cur, hb.trans h1, r⟩
theorem SetAt.keep (h : SetAt w p F n hv) (hb : w'.heap[p]? = w.heap[p]?) : SetAt w' p F n hv := by obtain ⟨cur, h1, r⟩ := h; exact ⟨cur, hb.trans h1, r⟩
theorem TabAt.lt (h : TabAt w g C T) : g < w.heap.size := by obtain ⟨cur, h1, _⟩ := h; exact (Array.getElem?_eq_some_iff.1 h1).1
theorem SetAt.lt (h : SetAt w p F n hv) : p < w.heap.size := by obtain ⟨cur, h1, _⟩ := h; exact (Array.getElem?_eq_some_iff.1 h1).1
theorem TabAt.ext (h : TabAt w g C T) (hb : Below w.heap.size w w') : TabAt w' g C T := h.keep (hb.block g h.lt)
theorem SetAt.ext (h : SetAt w p F n hv) (hb : Below w.heap.size w w') : SetAt w' p F n hv := h.keep (hb.block p h.lt)

theorem TabAt.c0 (h : TabAt w g C T) {i : Nat} (hi : i < C) : w.cell? ⟨g, i * 3, none⟩ = some (.int .i32 (T i).1) := by obtain ⟨cur, h1, h2, h3⟩ := h; rw [cell_of_row w g _ _ _ _ h1]; exact (h3 i hi).1
theorem TabAt.c1 (h : TabAt w g C T) {i : Nat} (hi : i < C) : w.cell? ⟨g, i * 3 + 1, none⟩ = some (.int .u32 0) := by obtain ⟨cur, h1, h2, h3⟩ := h; rw [cell_of_row w g _ _ _ _ h1]; exact (h3 i hi).2.1
theorem TabAt.c2 (h : TabAt w g C T) {i : Nat} (hi : i < C) : w.cell? ⟨g, i * 3 + 2, none⟩ = some (.int .u64 (T i).2) := by obtain ⟨cur, h1, h2, h3⟩ := h; rw [cell_of_row w g _ _ _ _ h1]; exact (h3 i hi).2.2
theorem TabAt.fz (h : TabAt w g C T) (j : Nat) : w.frozen? ⟨g, j, none⟩ = false := by obtain ⟨cur, h1, h2, h3⟩ := h; exact frozen_of_row w g j _ _ h1
theorem SetAt.c0 (h : SetAt w p F n hv) {i : Nat} (hi : i < 8) : w.cell? ⟨p, i * 3, none⟩ = some (.int .i32 (F i).1) := by obtain ⟨cur, h1, h2, h3, _⟩ := h; rw [cell_of_row w p _ _ _ _ h1]; exact (h3 i hi).1
theorem SetAt.c1 (h : SetAt w p F n hv) {i : Nat} (hi : i < 8) : w.cell? ⟨p, i * 3 + 1, none⟩ = some (.int .u32 0) := by obtain ⟨cur, h1, h2, h3, _⟩ := h; rw [cell_of_row w p _ _ _ _ h1]; exact (h3 i hi).2.1
theorem SetAt.c2 (h : SetAt w p F n hv) {i : Nat} (hi : i < 8) : w.cell? ⟨p, i * 3 + 2, none⟩ = some (.int .u64 (F i).2) := by obtain ⟨cur, h1, h2, h3, _⟩ := h; rw [cell_of_row w p _ _ _ _ h1]; exact (h3 i hi).2.2
theorem SetAt.words (h : SetAt w p F n hv) : w.cell? ⟨p, 24, none⟩ = some (.int .i64 n) := by obtain ⟨cur, h1, h2, h3, h4, h5, h6⟩ := h; rw [cell_of_row w p _ _ _ _ h1]; exact h4
theorem SetAt.hashed (h : SetAt w p F n hv) : w.cell? ⟨p, 25, none⟩ = some hv := by obtain ⟨cur, h1, h2, h3, h4, h5, h6⟩ := h; rw [cell_of_row w p _ _ _ _ h1]; exact h5
theorem SetAt.round (h : SetAt w p F n hv) : w.cell? ⟨p, 26, none⟩ = some (.int .u32 0) := by obtain ⟨cur, h1, h2, h3, h4, h5, h6⟩ := h; rw [cell_of_row w p _ _ _ _ h1]; exact h6
theorem SetAt.fz (h : SetAt w p F n hv) (j : Nat) : w.frozen? ⟨p, j, none⟩ = false := by obtain ⟨cur, h1, _⟩ := h; exact frozen_of_row w p j _ _ h1

theorem WordIn.set {cur : Array Value} {o k : Nat} {v : Int × Nat} (h : WordIn cur o v) (hk : k < o ∨ o + 2 < k) (u : Value) : WordIn (cur.setIfInBounds k u) o v := by
  refine ⟨?_, ?_, ?_⟩
  · rw [Array.getElem?_setIfInBounds_ne (by omega)]; exact h.1
  · rw [Array.getElem?_setIfInBounds_ne (by omega)]; exact h.2.1
  · rw [Array.getElem?_setIfInBounds_ne (by omega)]; exact h.2.2

/-- The bits of a slot's word are written. -/
theorem TabAt.setBits (h : TabAt w g C T) {i : Nat} (hi : i < C) (b : Nat) : TabAt (w.setCell ⟨g, i * 3 + 2, none⟩ (.int .u64 b)) g C (upd T i ((T i).1, b)) := by
  obtain ⟨cur, h1, h2, h3⟩ := h
  refine ⟨_, heap_setCell_same w g _ cur 46 _ h1, by simpa using h2, fun j hj => ?_⟩
  by_cases e : j = i
  · subst e
    rw [upd_same]
    have hw := h3 j hj
    refine ⟨?_, ?_, ?_⟩
    · rw [Array.getElem?_setIfInBounds_ne (by omega)]; exact hw.1
    · rw [Array.getElem?_setIfInBounds_ne (by omega)]; exact hw.2.1
    · rw [Array.getElem?_setIfInBounds_self_of_lt (by omega)]
  · rw [upd_other _ _ e]
    exact (h3 j hj).set (by omega) _

theorem SetAt.setBits (h : SetAt w p F n hv) {i : Nat} (hi : i < 8) (b : Nat) : SetAt (w.setCell ⟨p, i * 3 + 2, none⟩ (.int .u64 b)) p (upd F i ((F i).1, b)) n hv := by
  obtain ⟨cur, h1, h2, h3, h4, h5, h6⟩ := h
  refine ⟨_, heap_setCell_same w p _ cur 50 _ h1, by simpa using h2, fun j hj => ?_, ?_, ?_, ?_⟩
  · by_cases e : j = i
    · subst e
      rw [upd_same]
      have hw := h3 j hj
      refine ⟨?_, ?_, ?_⟩
      · rw [Array.getElem?_setIfInBounds_ne (by omega)]; exact hw.1
      · rw [Array.getElem?_setIfInBounds_ne (by omega)]; exact hw.2.1
      · rw [Array.getElem?_setIfInBounds_self_of_lt (by omega)]
    · rw [upd_other _ _ e]
      exact (h3 j hj).set (by omega) _
  · rw [Array.getElem?_setIfInBounds_ne (by omega)]; exact h4
  · rw [Array.getElem?_setIfInBounds_ne (by omega)]; exact h5
  · rw [Array.getElem?_setIfInBounds_ne (by omega)]; exact h6

/-- The three cells of a word are written. -/
def put3 (w : World) (b o : Nat) (v : Int × Nat) : World := ((w.setCell ⟨b, o, none⟩ (.int .i32 v.1)).setCell ⟨b, o + 1, none⟩ (.int .u32 0)).setCell ⟨b, o + 2, none⟩ (.int .u64 v.2)

theorem put3_row {cur : Array Value} {b o : Nat} {t : TypeId} (h : w.heap[b]? = some (.cells cur t (0, 0))) (v : Int × Nat) : (put3 w b o v).heap[b]? = some (.cells (((cur.setIfInBounds o (.int .i32 v.1)).setIfInBounds (o + 1) (.int .u32 0)).setIfInBounds (o + 2) (.int .u64 v.2)) t (0, 0)) :=
  heap_setCell_same _ b _ _ t _ (heap_setCell_same _ b _ _ t _ (heap_setCell_same w b _ cur t _ h))

theorem wordIn_put (cur : Array Value) (o : Nat) (v : Int × Nat) (ho : o + 2 < cur.size) : WordIn (((cur.setIfInBounds o (.int .i32 v.1)).setIfInBounds (o + 1) (.int .u32 0)).setIfInBounds (o + 2) (.int .u64 v.2)) o v := by
  refine ⟨?_, ?_, ?_⟩
  · rw [Array.getElem?_setIfInBounds_ne (by omega), Array.getElem?_setIfInBounds_ne (by omega), Array.getElem?_setIfInBounds_self_of_lt (by omega)]
  · rw [Array.getElem?_setIfInBounds_ne (by omega), Array.getElem?_setIfInBounds_self_of_lt (by simp; omega)]
  · rw [Array.getElem?_setIfInBounds_self_of_lt (by simp; omega)]

theorem TabAt.put (h : TabAt w g C T) {i : Nat} (hi : i < C) (v : Int × Nat) : TabAt (put3 w g (i * 3) v) g C (upd T i v) := by
  obtain ⟨cur, h1, h2, h3⟩ := h
  refine ⟨_, put3_row h1 v, by simpa using h2, fun j hj => ?_⟩
  by_cases e : j = i
  · subst e
    rw [upd_same]
    exact wordIn_put cur _ v (by omega)
  · rw [upd_other _ _ e]
    exact (((h3 j hj).set (by omega) _).set (by omega) _).set (by omega) _

theorem SetAt.put (h : SetAt w p F n hv) {i : Nat} (hi : i < 8) (v : Int × Nat) : SetAt (put3 w p (i * 3) v) p (upd F i v) n hv := by
  obtain ⟨cur, h1, h2, h3, h4, h5, h6⟩ := h
  refine ⟨_, put3_row h1 v, by simpa using h2, fun j hj => ?_, ?_, ?_, ?_⟩
  · by_cases e : j = i
    · subst e
      rw [upd_same]
      exact wordIn_put cur _ v (by omega)
    · rw [upd_other _ _ e]
      exact (((h3 j hj).set (by omega) _).set (by omega) _).set (by omega) _
  · rw [Array.getElem?_setIfInBounds_ne (by omega), Array.getElem?_setIfInBounds_ne (by omega), Array.getElem?_setIfInBounds_ne (by omega)]; exact h4
  · rw [Array.getElem?_setIfInBounds_ne (by omega), Array.getElem?_setIfInBounds_ne (by omega), Array.getElem?_setIfInBounds_ne (by omega)]; exact h5
  · rw [Array.getElem?_setIfInBounds_ne (by omega), Array.getElem?_setIfInBounds_ne (by omega), Array.getElem?_setIfInBounds_ne (by omega)]; exact h6

theorem SetAt.setWords (h : SetAt w p F n hv) (m : Nat) : SetAt (w.setCell ⟨p, 24, none⟩ (.int .i64 m)) p F m hv := by
  obtain ⟨cur, h1, h2, h3, h4, h5, h6⟩ := h
  refine ⟨_, heap_setCell_same w p _ cur 50 _ h1, by simpa using h2, fun j hj => (h3 j hj).set (by omega) _, ?_, ?_, ?_⟩
  · rw [Array.getElem?_setIfInBounds_self_of_lt (by omega)]
  · rw [Array.getElem?_setIfInBounds_ne (by omega)]; exact h5
  · rw [Array.getElem?_setIfInBounds_ne (by omega)]; exact h6

theorem SetAt.setHashed (h : SetAt w p F n hv) (u : Value) : SetAt (w.setCell ⟨p, 25, none⟩ u) p F n u := by
  obtain ⟨cur, h1, h2, h3, h4, h5, h6⟩ := h
  refine ⟨_, heap_setCell_same w p _ cur 50 _ h1, by simpa using h2, fun j hj => (h3 j hj).set (by omega) _, ?_, ?_, ?_⟩
  · rw [Array.getElem?_setIfInBounds_ne (by omega)]; exact h4
  · rw [Array.getElem?_setIfInBounds_self_of_lt (by omega)]
  · rw [Array.getElem?_setIfInBounds_ne (by omega)]; exact h6

theorem put3_other {b o k : Nat} (v : Int × Nat) (h : k ≠ b) : (put3 w b o v).heap[k]? = w.heap[k]? :=
  (heap_setCell_other _ _ k _ h).trans ((heap_setCell_other _ _ k _ h).trans (heap_setCell_other w _ k _ h))

theorem put3_below {B b o : Nat} {a : World} (v : Int × Nat) (h : Below B a w) (hb : B ≤ b) : Below B a (put3 w b o v) := ((h.setCell hb _).setCell hb _).setCell hb _
end
end Go.Proofs.Qxb6601295a
