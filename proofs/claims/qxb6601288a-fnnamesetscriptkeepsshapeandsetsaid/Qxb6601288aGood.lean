/-
  A NAME SET IN EITHER FORM, AS THE SCRIPT SEES IT.
-/
import Derived.Test.Qxb6601288aHolds
namespace Go.Proofs.Qxb6601288a
open Go.RowKit Go.Maps

/-- Block p is a well shaped name set that holds the names L, in blocks outside Z. -/
structure Good (Z : Nat → Prop) (w : World) (p : Nat) (L : List ByteArray) : Prop where
  out : ¬ Z p
  form : (∃ fv, Few w p fv L ∧ L.length ≤ 8 ∧ L.Nodup ∧ (L = [] → fv = .slice none 0 0) ∧ ∀ k, fv.ownBlock = some k → ¬ Z k) ∨ (∃ m, Many w p m L ∧ 0 < L.length ∧ ¬ Z m)

theorem Good.nodup {Z : Nat → Prop} {w : World} {p : Nat} {L : List ByteArray} (h : Good Z w p L) : L.Nodup := by
  rcases h.form with ⟨_, _, _, hn, _⟩ | ⟨m, hm, _⟩
  · exact hn
  · obtain ⟨D, _, _, _, hn⟩ := hm.set
    exact hn

/-- The set stays what it is while nothing outside Z is written; and it may be told against another Z. -/
theorem Good.move {Z Y : Nat → Prop} {w w' : World} {p : Nat} {L : List ByteArray} (h : Good Z w p L) (hb : ∀ k, k < w.heap.size → ¬ Z k → w'.heap[k]? = w.heap[k]?) (hy : ∀ k, k < w.heap.size → ¬ Z k → ¬ Y k) : Good Y w' p L := by
  rcases h.form with ⟨fv, hf, h8, hn, hnil, hz⟩ | ⟨m, hm, hpos, hz⟩
  · have hp := hf.two.lt
    have hk : ∀ k, fv.ownBlock = some k → k < w.heap.size := fun k e => (hf.own.lt k e).2
    exact ⟨hy p hp h.out, .inl ⟨fv, hf.keep (hb p hp h.out) (fun k e => hb k (hk k e) (hz k e)), h8, hn, hnil, fun k e => hy k (hk k e) (hz k e)⟩⟩
  · have hp := hm.two.lt
    have hq := hm.set.lt
    exact ⟨hy p hp h.out, .inr ⟨m, hm.keep (hb p hp h.out) (hb m hq hz), hpos, hy m hq hz⟩⟩

theorem Good.ext {Z : Nat → Prop} {w w' : World} {p : Nat} {L : List ByteArray} (h : Good Z w p L) (hb : Below w.heap.size w w') : Good Z w' p L :=
  h.move (fun k hk _ => hb.block k hk) (fun _ _ h => h)

theorem own_pos {w : World} {b : Nat} {v : Value} {ss : List ByteArray} (h : Own w b v ss) (hp : ss ≠ []) : v ≠ .slice none 0 0 := by
  rcases h.2 with ⟨_, h0⟩ | ⟨g, cap, cur, e, _⟩
  · exact absurd (List.length_eq_zero_iff.1 h0) hp
  · rw [e]; simp

theorem good_add {Z : Nat → Prop} {w : World} {p : Nat} {L : List ByteArray} (h : Good Z w p L) (x : ByteArray) (hxs : x.size ≤ maxLen) (hl : L.length ≤ 16384) (hZ : ∀ k, Z k → k < w.heap.size) :
    Calls Try.prog 36 #[.pointer (some ⟨p, 0, none⟩), .string x] w fun e w' => e = .returned (.tuple #[]) ∧ Good Z w' p (addN L x) ∧ Keep Z w w' := by
  rcases h.form with ⟨fv, hf, h8, hn, hnil, hz⟩ | ⟨m, hm, hpos, hz⟩
  · cases hin : inB L x
    · have hx := inB_false.1 hin
      rw [addN_new hin]
      by_cases hr : L.length < 8
      · refine (add_room hf x hx hxs hr hZ h.out hz).mono ?_
        rintro e w' ⟨rfl, ⟨fv', hf', hz'⟩, hk⟩
        refine ⟨rfl, ⟨h.out, .inl ⟨fv', hf', by simp; omega, ?_, fun e => by simp at e, hz'⟩⟩, hk⟩
        have := nodup_addN (x := x) hn
        rwa [addN_new hin] at this
      · refine (add_full hf x hx hxs (by omega) hl hn hZ h.out).mono ?_
        rintro e w' ⟨rfl, ⟨m, hm, hz'⟩, hk⟩
        exact ⟨rfl, ⟨h.out, .inr ⟨m, hm, by simp, hz'⟩⟩, hk⟩
    · rw [addN_old hin]
      refine (add_in hf x (inB_true.1 hin)).mono ?_
      rintro e w' ⟨rfl, rfl⟩
      exact ⟨rfl, h, Keep.refl _ _⟩
  · refine (add_many hm x hxs (by unfold maxLen; omega) hZ hz).mono ?_
    rintro e w' ⟨rfl, hm', hk⟩
    refine ⟨rfl, ⟨h.out, .inr ⟨m, hm', ?_, hz⟩⟩, hk⟩
    refine List.length_pos_iff.2 fun e => ?_
    have : x ∈ addN L x := mem_addN.2 (.inr rfl)
    rw [e] at this
    simp at this

theorem good_remove {Z : Nat → Prop} {w : World} {p : Nat} {L : List ByteArray} (h : Good Z w p L) (x : ByteArray) (hxs : x.size ≤ maxLen) (hl : L.length ≤ 16384) (hZ : ∀ k, Z k → k < w.heap.size) :
    Calls Try.prog 40 #[.pointer (some ⟨p, 0, none⟩), .string x] w fun e w' => e = .returned (.tuple #[]) ∧ ∃ M, Good Z w' p M ∧ (∀ y, y ∈ M ↔ y ∈ L ∧ y ≠ x) ∧ Keep Z w w' := by
  rcases h.form with ⟨fv, hf, h8, hn, hnil, hz⟩ | ⟨m, hm, hpos, hz⟩
  · cases hin : inB L x
    · have hx := inB_false.1 hin
      refine (remove_miss hf x hx).mono ?_
      rintro e w' ⟨rfl, rfl⟩
      refine ⟨rfl, L, h, fun y => ⟨fun hy => ⟨hy, fun e => hx (e ▸ hy)⟩, fun hy => hy.1⟩, Keep.refl _ _⟩
    · refine (remove_hit hf x (inB_true.1 hin) hn hl h.out hz).mono ?_
      rintro e w' ⟨rfl, M, hleft, ⟨fv', hf', hz', hnil'⟩, hk⟩
      have := hleft.len
      exact ⟨rfl, M, ⟨h.out, .inl ⟨fv', hf', by omega, hleft.nodup, hnil', hz'⟩⟩, hleft.mem, hk⟩
  · by_cases he : without L x = []
    · refine (remove_last hm x hxs hZ hz h.out he).mono ?_
      rintro e w' ⟨rfl, hf', hk⟩
      refine ⟨rfl, [], ⟨h.out, .inl ⟨_, hf', by simp, List.nodup_nil, fun _ => rfl, fun k hk => by simp [Value.ownBlock] at hk⟩⟩, fun y => ?_, hk⟩
      rw [← he]
      exact mem_without
    · refine (remove_many hm x hxs (by unfold maxLen; omega) hZ hz he).mono ?_
      rintro e w' ⟨rfl, hm', hk⟩
      exact ⟨rfl, without L x, ⟨h.out, .inr ⟨m, hm', List.length_pos_iff.2 he, hz⟩⟩, fun y => mem_without, hk⟩

theorem good_shape {Z : Nat → Prop} {w : World} {p : Nat} {L : List ByteArray} (h : Good Z w p L) (hl : L.length ≤ 16384) :
    Calls Try.prog 25 #[.pointer (some ⟨p, 0, none⟩)] w fun e w' => e = .returned (.bool true) ∧ Below w.heap.size w w' := by
  rcases h.form with ⟨fv, hf, h8, hn, hnil, hz⟩ | ⟨m, hm, hpos, hz⟩
  · exact shape_few hf h8 hn hnil
  · exact shape_many hm hpos (by unfold maxLen; omega)

theorem sub_len : ∀ (L M : List ByteArray), L.Nodup → M.Nodup → (∀ y ∈ L, y ∈ M) → L.length ≤ M.length
  | [], _, _, _, _ => by simp
  | a :: r, M, h1, h2, h3 => by
    have ha := List.nodup_cons.1 h1
    have h4 := length_without a h2
    rw [inB_true.2 (h3 a (by simp))] at h4
    have h5 := sub_len r (without M a) ha.2 (nodup_without h2) (fun y hy => mem_without.2 ⟨h3 y (by simp [hy]), fun e => ha.1 (e ▸ hy)⟩)
    simp at h4 ⊢
    omega

theorem same_len {L M : List ByteArray} (h1 : L.Nodup) (h2 : M.Nodup) (h : ∀ y, y ∈ L ↔ y ∈ M) : L.length = M.length :=
  Nat.le_antisymm (sub_len L M h1 h2 fun y hy => (h y).1 hy) (sub_len M L h2 h1 fun y hy => (h y).2 hy)

theorem good_holds {Z : Nat → Prop} {w : World} {p : Nat} {L M : List ByteArray} (h : Good Z w p L) (a : Option Addr) (cap : Nat) (hM : Strs w a M.length M) (hm : M.length ≤ maxLen) (hn : M.Nodup) (hs : ∀ y, y ∈ L ↔ y ∈ M) (hsh : ∀ s ∈ M, s.size ≤ maxLen) :
    Calls Try.prog 16 #[.pointer (some ⟨p, 0, none⟩), .slice a M.length cap] w fun e w' => e = .returned (.bool true) ∧ Below w.heap.size w w' := by
  have hlen := same_len h.nodup hn hs
  rcases h.form with ⟨fv, hf, h8, _, hnil, hz⟩ | ⟨m, hmm, hpos, hz⟩
  · exact holds_few hf a cap hM hm hlen (fun y hy => (hs y).2 hy)
  · exact holds_many hmm a cap hM hm hlen (fun y hy => (hs y).2 hy) hsh
end Go.Proofs.Qxb6601288a
