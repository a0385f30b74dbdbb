/-
  PLAIN FACTS (no program in sight): strings as arrays of bytes; lists of strings; slices of strings as they lie in a world.
-/
import Derived.Maps.OwnSet
import Derived.WalkKit
namespace Go.Proofs.Qxb6601288a
open Go.RowKit

theorem beq_toList (a b : ByteArray) : (a.toList == b.toList) = decide (a = b) := by
  rw [ByteArray.toList_eq, ByteArray.toList_eq]
  by_cases h : a = b
  · subst h; simp
  · have : ¬ a.data = b.data := fun e => h (by cases a; cases b; simp at e; subst e; rfl)
    simp [h, this]

theorem eq_of_beq {a b : ByteArray} (h : (a.toList == b.toList) = true) : a = b := by
  rw [beq_toList] at h; exact of_decide_eq_true h

theorem ne_of_beq {a b : ByteArray} (h : (a.toList == b.toList) = false) : a ≠ b := by
  rw [beq_toList] at h; exact of_decide_eq_false h

/-- Is x among ss? -/
def inB (ss : List ByteArray) (x : ByteArray) : Bool := ss.any fun s => decide (s = x)

theorem inB_true {ss : List ByteArray} {x : ByteArray} : inB ss x = true ↔ x ∈ ss := by simp [inB]
theorem inB_false {ss : List ByteArray} {x : ByteArray} : inB ss x = false ↔ x ∉ ss := by
  rw [← inB_true]; cases inB ss x <;> simp
theorem inB_eq {ss tt : List ByteArray} {x y : ByteArray} (h : x ∈ ss ↔ y ∈ tt) : inB ss x = inB tt y := by
  rw [Bool.eq_iff_iff, inB_true, inB_true, h]

/-- The slice value '.slice a len _' reads as the strings ss in the world w. -/
def Strs (w : World) (a : Option Addr) (len : Nat) (ss : List ByteArray) : Prop :=
  len = ss.length ∧ (ss = [] ∨ ∃ b off, a = some ⟨b, off, none⟩ ∧ ∀ i, i < ss.length → w.cell? ⟨b, off + i, none⟩ = some (.string (ss.getD i ByteArray.empty)))

theorem Strs.keep {w w' : World} {a : Option Addr} {len : Nat} {ss : List ByteArray} (h : Strs w a len ss) (hk : ∀ x, a = some x → ss ≠ [] → w'.heap[x.block]? = w.heap[x.block]?) : Strs w' a len ss := by
  refine ⟨h.1, ?_⟩
  rcases h.2 with h0 | ⟨b, off, rfl, hc⟩
  · exact .inl h0
  · by_cases h0 : ss = []
    · exact .inl h0
    · exact .inr ⟨b, off, rfl, fun i hi => (World.cell?_of_block (a := ⟨b, off + i, none⟩) (hk ⟨b, off, none⟩ rfl h0)).trans (hc i hi)⟩

theorem Strs.lt {w : World} {a : Option Addr} {len : Nat} {ss : List ByteArray} (h : Strs w a len ss) : ∀ x, a = some x → ss ≠ [] → x.block < w.heap.size := by
  intro x hx h0
  rcases h.2 with h1 | ⟨b, off, rfl, hc⟩
  · exact absurd h1 h0
  · cases hx
    exact World.block_lt_of_cell? w _ (hc 0 (List.length_pos_iff.2 h0))

/-- What is read in a world is read in every world in which no old block has turned. -/
theorem Strs.ext {w w' : World} {a : Option Addr} {len : Nat} {ss : List ByteArray} (h : Strs w a len ss) (hb : Below w.heap.size w w') : Strs w' a len ss :=
  h.keep fun x hx h0 => hb.block _ (h.lt x hx h0)

theorem take_succ_getD (ss : List ByteArray) (k : Nat) (h : k < ss.length) : ss.take (k + 1) = ss.take k ++ [ss.getD k ByteArray.empty] := by
  rw [List.take_succ_eq_append_getElem h]
  simp [List.getD, h]

theorem getD_mem (ss : List ByteArray) (k : Nat) (h : k < ss.length) : ss.getD k ByteArray.empty ∈ ss := by
  simp [List.getD, h]

end Go.Proofs.Qxb6601288a
