/-
  WHAT COMES IN: a slice of strings, a slice of bools, opened for the walks.
-/
import Derived.Test.Qxb6601288aHolds
import Derived.WalkKit
import Derived.ProofKit
import Derived.ShutString
import Derived.ChangeOld
import Derived.Below
namespace Go.Proofs.Qxb6601288a
open Go.ChangeShapes Go.WideShapes Go.ChangeAt Go.RowKit
open Go.ChangeMaps (open_string shut_string)

theorem own : ownKnob Try.prog.godebug = none := by kernel_rfl
theorem laidOut : laidOutB Try.prog = true := by kernel_rfl
theorem cells9 : Try.prog.cellsOf 9 = 1 := by kernel_rfl
theorem cells4 : Try.prog.cellsOf 4 = 1 := by kernel_rfl

theorem getD_take (ss : List ByteArray) (n i : Nat) (h : i < n) : (ss.take n).getD i ByteArray.empty = ss.getD i ByteArray.empty := by
  simp [List.getD, h]

theorem opened {H : Type} {enc : TypeId × Value → H} {W : World} {fuel : Nat} {a : Option Addr} {len cap : Nat} {x : DataW H × List MemPlace}
    (h : DataW.trod enc Try.prog W 0 (fun _ => true) true fuel 22 [.slice a len cap] = some x) :
    ∃ ss, len = ss.length ∧ Strs W a ss.length ss ∧ (a = none → ss = [] ∧ cap = 0) ∧ ss.length ≤ maxLen ∧ ∀ s ∈ ss, s.size ≤ maxLen := by
  rcases open_strings Try.underlying22 Try.underlying9 cells9 h with ⟨hcs, _⟩ | ⟨y, l, c, ss, hcs, _, hl, hm, hz, _, hcell, hws⟩
  · cases hcs
    exact ⟨[], rfl, ⟨rfl, .inl rfl⟩, fun _ => ⟨rfl, rfl⟩, by simp, by simp⟩
  · cases hcs
    have hz' : ss.length = cap := by simpa using hz
    have hlen : (ss.take len).length = len := by simp; omega
    refine ⟨ss.take len, hlen.symm, ⟨rfl, ?_⟩, (fun e => by cases e), by omega, fun s hs => hws s (List.mem_of_mem_take hs)⟩
    by_cases h0 : len = 0
    · left
      exact List.length_eq_zero_iff.1 (by omega)
    · right
      obtain ⟨b, off, spot⟩ := y
      have hspot : spot = none := by simpa [Addr.add] using World.cell?_spot (hcell 0 (by omega))
      subst hspot
      refine ⟨b, off, rfl, fun i hi => ?_⟩
      rw [hlen] at hi
      rw [← add_plain, getD_take ss len i hi]
      exact hcell i (by omega)
end Go.Proofs.Qxb6601288a
