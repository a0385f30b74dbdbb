/-
  remove, OF A NAME THAT STANDS IN THE SLICE: the last name takes its place.
-/
import Derived.Test.Qxb6601288aNames
namespace Go.Proofs.Qxb6601288a
open Go.RowKit Go.Maps

/-- The names with the last one in place j, cut by one. -/
def swapOut (L : List ByteArray) (j : Nat) : List ByteArray := (L.set j (L.getD (L.length - 1) ByteArray.empty)).take (L.length - 1)

theorem swapOut_len (L : List ByteArray) (j : Nat) : (swapOut L j).length = L.length - 1 := by simp [swapOut]

theorem map_getD (L : List ByteArray) (j : Nat) (h : j < L.length) : (L.map Value.string)[j]? = some (.string (L.getD j ByteArray.empty)) := by simp [h]

theorem cell_after {w : World} {g l : Nat} {s : ByteArray} (h : w.cell? ⟨g, l, none⟩ = some (.string s)) (j : Nat) : (w.setCell ⟨g, j, none⟩ (.string s)).cell? ⟨g, l, none⟩ = some (.string s) := by
  by_cases e : j = l
  · rw [e]; exact World.cell?_setCell_same w _ _ h
  · rw [World.cell?_setCell_other w _ _ _ (by intro e'; cases e'; exact e rfl)]; exact h

/-- What remove leaves of a set in slice form: the names L; nil where there is none. -/
structure Shrunk (Z : Nat → Prop) (w : World) (p : Nat) (L : List ByteArray) (w' : World) : Prop where
  few : ∃ fv, Few w' p fv L ∧ (∀ k, fv.ownBlock = some k → ¬ Z k) ∧ (L = [] → fv = .slice none 0 0)
  keep : Keep Z w w'

theorem Keep.drew {Z : Nat → Prop} {w w' : World} (h : Keep Z w w') : Keep Z w w'.drew := ⟨h.os, h.tape, h.output, h.size, h.block⟩

theorem owns_cut {w : World} {base g n cap m : Nat} {xs : List Value} (h : w.ownsRow base 9 1 (.slice (some ⟨g, 0, none⟩) n cap) n xs) (hm : m ≤ n) : w.ownsRow base 9 1 (.slice (some ⟨g, 0, none⟩) m cap) m (xs.take m) := by
  rcases h.2 with ⟨e, _⟩ | ⟨g', cap', cur, e, hb, hg, hn, hc, hs, ht⟩
  · cases e
  · cases e
    have h1 := h.1
    refine ⟨by simp; omega, .inr ⟨g, cap, cur, rfl, hb, hg, by omega, hc, hs, ?_⟩⟩
    rw [← ht, List.take_take]
    congr 1
    omega

theorem map_set (L : List ByteArray) (j : Nat) (s : ByteArray) : (L.map Value.string).set j (.string s) = (L.set j s).map Value.string := by simp

theorem swap_owned {w : World} {g cap : Nat} {L : List ByteArray} {s : ByteArray} (h : Own w 0 (.slice (some ⟨g, 0, none⟩) L.length cap) L) (hs : s = L.getD (L.length - 1) ByteArray.empty) (j : Nat) :
    Own ((w.setCell ⟨g, j, none⟩ (.string s)).setCell ⟨g, L.length - 1, none⟩ (.string ⟨#[]⟩)) 0 (.slice (some ⟨g, 0, none⟩) (L.length - 1) cap) (swapOut L j) := by
  have h1 := (h.stored j (.string s)).1
  have h2 := (h1.stored (L.length - 1) (.string ⟨#[]⟩)).1
  have h3 := owns_cut h2 (show L.length - 1 ≤ L.length by omega)
  rw [map_set, map_set, ← List.map_take, List.take_set_of_le (by omega)] at h3
  rw [hs] at h3
  unfold Own
  rw [swapOut_len]
  rw [hs]
  exact h3

theorem remove_done {Z : Nat → Prop} {w : World} {p g cap j : Nat} {L : List ByteArray} {s : ByteArray} (h : Few w p (.slice (some ⟨g, 0, none⟩) L.length cap) L) (hs : s = L.getD (L.length - 1) ByteArray.empty) (h2 : 2 ≤ L.length) (hgp : ¬ p = g) (hzp : ¬ Z p) (hzf : ∀ k, (Value.slice (some ⟨g, 0, none⟩) L.length cap).ownBlock = some k → ¬ Z k) :
    Shrunk Z w p (swapOut L j) (((w.setCell ⟨g, j, none⟩ (.string s)).setCell ⟨g, L.length - 1, none⟩ (.string ⟨#[]⟩)).setCell ⟨p, 0, none⟩ (.slice (some ⟨g, 0, none⟩) (L.length - 1) cap)).drew := by
  have hzg : ¬ Z g := hzf g rfl
  have ho := swap_owned h.own hs j
  have ht : Two ((w.setCell ⟨g, j, none⟩ (.string s)).setCell ⟨g, L.length - 1, none⟩ (.string ⟨#[]⟩)) p (.slice (some ⟨g, 0, none⟩) L.length cap) (.map none) :=
    (h.two.keep (heap_setCell_other w _ p _ hgp)).keep (heap_setCell_other _ _ p _ hgp)
  refine ⟨⟨.slice (some ⟨g, 0, none⟩) (L.length - 1) cap, ⟨ht.set0 _, ?_, fun e => hgp (by cases e; rfl), ?_⟩, fun k hk => by cases hk; exact hzg, fun e => ?_⟩, ?_⟩
  · exact (ho.keep fun k hk => by cases hk; exact heap_setCell_other _ _ _ _ (fun e => hgp e.symm))
  · intro t htm
    have h1 := List.mem_of_mem_take htm
    rcases List.mem_or_eq_of_mem_set h1 with h1 | h1
    · exact h.short t h1
    · rw [h1]; exact h.short _ (getD_mem L _ (by omega))
  · have := swapOut_len L j
    rw [e] at this
    simp at this
    omega
  · exact (((Keep.of_set w _ _ hzg).trans (Keep.of_set _ _ _ hzg)).trans (Keep.of_set _ _ _ hzp)).drew

theorem remove_done1 {Z : Nat → Prop} {w : World} {p g cap : Nat} {L : List ByteArray} {s : ByteArray} (h : Few w p (.slice (some ⟨g, 0, none⟩) L.length cap) L) (h1 : L.length ≤ 1) (hgp : ¬ p = g) (hzp : ¬ Z p) (hzf : ∀ k, (Value.slice (some ⟨g, 0, none⟩) L.length cap).ownBlock = some k → ¬ Z k) (u : Value) :
    Shrunk Z w p (swapOut L 0) ((((w.setCell ⟨g, 0, none⟩ (.string s)).setCell ⟨g, 0, none⟩ (.string ⟨#[]⟩)).setCell ⟨p, 0, none⟩ u).setCell ⟨p, 0, none⟩ (.slice none 0 0)).drew := by
  have hzg : ¬ Z g := hzf g rfl
  have ht : Two ((w.setCell ⟨g, 0, none⟩ (.string s)).setCell ⟨g, 0, none⟩ (.string ⟨#[]⟩)) p (.slice (some ⟨g, 0, none⟩) L.length cap) (.map none) :=
    (h.two.keep (heap_setCell_other w _ p _ hgp)).keep (heap_setCell_other _ _ p _ hgp)
  have he : swapOut L 0 = [] := by
    have := swapOut_len L 0
    exact List.length_eq_zero_iff.1 (by omega)
  rw [he]
  refine ⟨⟨.slice none 0 0, ⟨(ht.set0 _).set0 _, World.ownsRow_nil _ _ _ _, by simp [Value.ownBlock], by simp⟩, (fun k hk => by simp [Value.ownBlock] at hk), fun _ => rfl⟩, ?_⟩
  exact ((((Keep.of_set w _ _ hzg).trans (Keep.of_set _ _ _ hzg)).trans (Keep.of_set _ _ _ hzp)).trans (Keep.of_set _ _ _ hzp)).drew

/-- Which names are left. -/
structure LeftOf (L : List ByteArray) (x : ByteArray) (M : List ByteArray) : Prop where
  len : M.length + 1 = L.length
  mem : ∀ y, y ∈ M ↔ y ∈ L ∧ y ≠ x
  nodup : M.Nodup

theorem leftOf_swap {L : List ByteArray} {x : ByteArray} {j : Nat} (hn : L.Nodup) (hj : j < L.length) (hx : L.getD j ByteArray.empty = x) : LeftOf L x (swapOut L j) := by
  have hp := List.nodup_iff_pairwise_ne.1 hn
  rw [List.pairwise_iff_getElem] at hp
  have inj : ∀ a b (ha : a < L.length) (hb : b < L.length), L[a] = L[b] → a = b := by
    intro a b ha hb e
    rcases Nat.lt_trichotomy a b with h | h | h
    · exact absurd e (hp a b ha hb h)
    · exact h
    · exact absurd e.symm (hp b a hb ha h)
  have hxj : L[j] = x := by simpa [hj] using hx
  have hlast : L.getD (L.length - 1) ByteArray.empty = L[L.length - 1]'(by omega) := by simp [show L.length - 1 < L.length by omega]
  have hget : ∀ i (hi : i < (swapOut L j).length), (swapOut L j)[i] = if i = j then L[L.length - 1]'(by omega) else L[i]'(by rw [swapOut_len] at hi; omega) := by
    intro i hi
    simp only [swapOut, List.getElem_take, List.getElem_set]
    by_cases e : i = j
    · rw [if_pos e.symm, if_pos e, hlast]
    · rw [if_neg (fun h => e h.symm), if_neg e]
  have hlen := swapOut_len L j
  refine ⟨by omega, fun y => ?_, ?_⟩
  · constructor
    · intro hy
      obtain ⟨i, hi, rfl⟩ := List.getElem_of_mem hy
      rw [hget i hi]
      split
      · rename_i e
        refine ⟨List.getElem_mem _, fun e2 => ?_⟩
        have := inj _ _ (by omega) hj (e2.trans hxj.symm)
        omega
      · rename_i e
        exact ⟨List.getElem_mem _, fun e2 => e (inj _ _ (by omega) hj (e2.trans hxj.symm))⟩
    · rintro ⟨hy, hne⟩
      obtain ⟨i, hi, rfl⟩ := List.getElem_of_mem hy
      have hij : i ≠ j := fun e => hne (by subst e; exact hxj)
      by_cases hil : i = L.length - 1
      · have h2 : j < (swapOut L j).length := by omega
        have := hget j h2
        rw [if_pos rfl] at this
        subst hil
        rw [← this]
        exact List.getElem_mem _
      · have h2 : i < (swapOut L j).length := by omega
        have := hget i h2
        rw [if_neg hij] at this
        rw [← this]
        exact List.getElem_mem _
  · rw [List.nodup_iff_pairwise_ne, List.pairwise_iff_getElem]
    intro a b ha hb hab
    rw [hget a ha, hget b hb]
    intro e
    split at e
    · split at e
      · omega
      · have := inj _ _ (by omega) (by omega) e; omega
    · split at e
      · have := inj _ _ (by omega) (by omega) e; omega
      · have := inj _ _ (by omega) (by omega) e; omega

set_option maxHeartbeats 800000 in
theorem remove_hit {Z : Nat → Prop} {w : World} {p : Nat} {fv : Value} {L : List ByteArray} (h : Few w p fv L) (x : ByteArray) (hx : x ∈ L) (hnd : L.Nodup) (hl : L.length ≤ 16384) (hzp : ¬ Z p) (hzf : ∀ k, fv.ownBlock = some k → ¬ Z k) :
    Calls Try.prog 40 #[.pointer (some ⟨p, 0, none⟩), .string x] w fun e w' => e = .returned (.tuple #[]) ∧ ∃ M, LeftOf L x M ∧ Shrunk Z w p M w' := by
  have hn := neNil50
  have c1 := h.two.c1
  have hlt := h.two.lt
  go_enter Try.func40, Try.ntmps40
  go_wp2_with fail
  refine (index_few h x).mono ?_
  rintro e w' ⟨⟨i, rfl, hid⟩, rfl⟩
  obtain ⟨j, hj, rfl, hjx⟩ : ∃ j : Nat, j < L.length ∧ i = j ∧ L.getD j ByteArray.empty = x := by
    rcases hid with ⟨_, hm⟩ | hid
    · exact absurd hx hm
    · exact hid
  clear hid
  have HJ : Hid (L.getD j ByteArray.empty = x) := hjx
  clear hjx
  have c0 := h.two.c0
  have f0 := h.two.f0
  have hown := h.own
  obtain ⟨a, cap, rfl, hs, hm, hcap, hcm, hob⟩ := h.own.strs
  have hne := h.ne
  rcases hown.2 with ⟨e, e0⟩ | ⟨g, cap', cur, e, _, hgg, _⟩
  · omega
  · cases e
    have hc1 := hown.cellAt (L.length - 1) (by omega)
    have hc2 := hown.cellAt j (by omega)
    obtain ⟨s, hse⟩ : ∃ s, s = L.getD (L.length - 1) ByteArray.empty := ⟨_, rfl⟩
    obtain ⟨r, hre⟩ : ∃ r, r = L.getD j ByteArray.empty := ⟨_, rfl⟩
    rw [map_getD L (L.length - 1) (by omega), ← hse] at hc1
    rw [map_getD L j (by omega), ← hre] at hc2
    have HS : Hid (s = L.getD (L.length - 1) ByteArray.empty) := hse
    clear hse hre hs hown
    have fz1 := h.own.frozenAt (L.length - 1)
    have fz2 := h.own.frozenAt j
    have hgp : ¬ p = g := fun e => hne (by rw [e]; rfl)
    have hpg : ¬ g = p := fun e => hgp e.symm
    clear hne hob hm
    by_cases h1 : L.length ≤ 1
    · obtain rfl : j = 0 := by omega
      have hc4 : w.cell? ⟨g, 0, none⟩ = some (.string s) := by have e := hc1; rwa [show L.length - 1 = 0 by omega] at e
      clear hc1 fz1 hc2
      go_wp2_with fail
      go_region
      all_goals go_wp2
      all_goals go_end0
      all_goals exact ⟨rfl, _, leftOf_swap hnd hj HJ.out, remove_done1 h h1 hgp hzp hzf _⟩
    · have h2 : 2 ≤ L.length := by omega
      have hc3 := cell_after hc1 j
      go_wp2_with fail
      go_region
      all_goals go_wp2
      all_goals go_end0
      all_goals exact ⟨rfl, _, leftOf_swap hnd hj HJ.out, remove_done h HS.out h2 hgp hzp hzf⟩
end Go.Proofs.Qxb6601288a
