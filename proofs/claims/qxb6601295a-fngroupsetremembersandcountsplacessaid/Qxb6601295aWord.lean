/-
  word: THE WORD OF A PLACE, OR NIL.
-/
import Derived.Test.Qxb6601295aMem
import Derived.Deep.LoopGhost
namespace Go.Proofs.Qxb6601295a
open Go.RowKit

theorem eqNil48 (w : World) (a : Option Addr) (n c : Nat) : (binOp .eql 48 (.slice a n c) (.slice none 0 0)).run Try.prog w = .ok (.bool a.isNone) w := Lib.run_eql_slice_nil w 48 46 a n c 0 0 Try.underlying48

theorem slice47_hi (w : World) (p n : Nat) (hn : n ≤ 8) : (Instr.sliceAt 47 (.pointer (some ⟨p, 0, none⟩)) none (some (.int .i64 n)) none).run Try.prog w = .ok (.slice (some ⟨p, 0, none⟩) n 8) w := by
  have h1 : (0 : Int) ≤ n ∧ (n : Int) ≤ 8 := by omega
  simp [Instr.sliceAt, run_underlying Try.underlying47, Instr.sureAddr, Instr.sliceBounds, Instr.sliceBound, asIntOf, h1, Addr.add]
  intro h
  omega

theorem slice47_all (w : World) (p : Nat) : (Instr.sliceAt 47 (.pointer (some ⟨p, 0, none⟩)) none none none).run Try.prog w = .ok (.slice (some ⟨p, 0, none⟩) 8 8) w := by
  simp [Instr.sliceAt, run_underlying Try.underlying47, Instr.sureAddr, Instr.sliceBounds, Addr.add]

/-- What word answers over the first N entries of block b. -/
def RetWord (b N : Nat) (E : Nat → Int × Nat) (q : Int) (e : Ending) : Prop :=
  (∃ i, i < N ∧ (E i).2 ≠ 0 ∧ (E i).1 = q ∧ e = .returned (.pointer (some ⟨b, i * 3, none⟩))) ∨ ((∀ i, i < N → (E i).2 ≠ 0 → (E i).1 ≠ q) ∧ e = .returned (.pointer none))

theorem ne_of_beqI {a b : Int} (h : (a == b) = false) : a ≠ b := by simpa using h
theorem eq_of_beqI {a b : Int} (h : (a == b) = true) : a = b := by simpa using h

set_option maxHeartbeats 400000 in
theorem word_few {w : World} {p n : Nat} {F : Nat → Int × Nat} (h : SetAt w p F n (.slice none 0 0)) (hn : n ≤ 8) (ho : ∀ i, i < 8 → ((F i).2 ≠ 0 ↔ i < n)) (q : Int) :
    Calls Try.prog 49 #[.pointer (some ⟨p, 0, none⟩), .int .i32 q] w fun e w' => RetWord p 8 F q e ∧ Below w.heap.size w w' := by
  have q48 := eqNil48
  have ch := h.hashed
  have cw := h.words
  have sl := fun w => slice47_hi w p n hn
  go_enter Try.func49, Try.ntmps49
  go_wp2
  go_quiet (fail)
  go_wp2
  go_loop [23] (fun i => ∃ k : Nat, k ≤ n ∧ i = .int .i64 k ∧ ∀ j, j < k → (F j).1 ≠ q) (fun i => n - (intOf i).toNat)
  case atStart => exact ⟨0, Nat.zero_le _, rfl, by simp⟩
  case round =>
    obtain ⟨k, hk, rfl, hb⟩ := hrel
    have HB : Hid (∀ j, j < k → (F j).1 ≠ q) := hb
    have HO : Hid (∀ i, i < 8 → ((F i).2 ≠ 0 ↔ i < n)) := ho
    clear hb ho sl
    by_cases hlt : k < n
    · have c0 := h.c0 (i := k) (by omega)
      obtain ⟨v, hv⟩ : ∃ v, v = (F k).1 := ⟨_, rfl⟩
      rw [← hv] at c0
      have HV : Hid (v = (F k).1) := hv
      clear hv
      go_wp2
      · go_ret
        have he : (v == q) = true := by assumption
        exact ⟨.inl ⟨k, by omega, (HO.out k (by omega)).2 hlt, HV.out.symm.trans (eq_of_beqI he), rfl⟩, below_drewN' _ (Below.refl _ _)⟩
      · have he : (v == q) = false := by assumption
        go_round
        case rel =>
          refine ⟨k + 1, by omega, by go_num, fun j hj => ?_⟩
          rcases Nat.lt_or_ge j k with h1 | h1
          · exact HB.out j h1
          · obtain rfl : j = k := by omega
            rw [← HV.out]
            exact ne_of_beqI he
        case measure => simp [intOf]; omega
    · go_wp2
      go_ret
      exact ⟨.inr ⟨fun i hi hne => HB.out i (by have := (HO.out i hi).1 hne; omega), rfl⟩, below_drewN' _ (Below.refl _ _)⟩

theorem next_mod {C s d i j : Nat} (hi : i = (s + d) % C) (hj : j = (i + 1) % C) : j = (s + (d + 1)) % C := by
  rw [hj, hi, Nat.mod_add_mod, Nat.add_assoc]

set_option maxHeartbeats 800000 in
theorem word_hash {w : World} {p g n C : Nat} {F T : Nat → Int × Nat} (h : SetAt w p F n (.slice (some ⟨g, 0, none⟩) C C)) (ht : TabAt w g C T) (hC : Pow2 C) (hh : Hash C (hs C) T) (hf : ∃ f, f < C ∧ (T f).2 = 0) (q : Int) (hq : 0 ≤ q) (hq2 : q < 2147483648) :
    Calls Try.prog 49 #[.pointer (some ⟨p, 0, none⟩), .int .i32 q] w fun e w' => RetWord g C T q e ∧ Below w.heap.size w w' := by
  have q48 := eqNil48
  have ch := h.hashed
  have hl := hC.le
  have hpos := hC.pos
  go_enter Try.func49, Try.ntmps49
  go_wp2_with fail
  refine (slot_any C q w hC hq hq2).mono ?_
  rintro e w' ⟨rfl, rfl⟩
  have hslt := hs_lt hpos q
  obtain ⟨s, hse⟩ : ∃ s, s = hs C q := ⟨_, rfl⟩
  rw [← hse] at hslt ⊢
  have HS : Hid (s = hs C q) := hse
  clear hse
  go_wp2_with fail
  go_loopg [7] C (fun gk i wr => ∃ d k : Nat, gk + d = C ∧ k = (s + d) % C ∧ i = .int .i64 k ∧ (∀ e, e < d → (T ((s + e) % C)).2 ≠ 0 ∧ (T ((s + e) % C)).1 ≠ q) ∧ Below w.heap.size w wr)
  case atStart => exact ⟨0, s, by omega, by rw [Nat.add_zero, Nat.mod_eq_of_lt hslt], rfl, by simp, Below.refl _ _⟩
  case round =>
    obtain ⟨d, k, hgk, hkd, rfl, hb, hbr⟩ := hrel
    have hkC : k < C := by rw [hkd]; exact Nat.mod_lt _ hpos
    have hdC : d < C := probe_lt hf (fun e he => (hb e he).1)
    have hr := h.ext hbr
    have htr := ht.ext hbr
    have dh := hr.hashed
    have t0 := htr.c0 hkC
    have t1 := htr.c1 hkC
    have t2 := htr.c2 hkC
    have drd := hr.round
    have hmask := mask_step hC hkC
    obtain ⟨j, hje⟩ : ∃ j, j = (k + 1) % C := ⟨_, rfl⟩
    rw [← hje] at hmask
    obtain ⟨pv, hpv⟩ : ∃ pv, pv = (T k).1 := ⟨_, rfl⟩
    obtain ⟨bv, hbv⟩ : ∃ bv, bv = (T k).2 := ⟨_, rfl⟩
    rw [← hpv] at t0
    rw [← hbv] at t2
    have HB : Hid (∀ e, e < d → (T ((s + e) % C)).2 ≠ 0 ∧ (T ((s + e) % C)).1 ≠ q) := hb
    have HK : Hid (k = (s + d) % C) := hkd
    have HJ : Hid (j = (k + 1) % C) := hje
    have HP : Hid (pv = (T k).1) := hpv
    have HV : Hid (bv = (T k).2) := hbv
    have HG : Hid (gk + d = C) := hgk
    clear hb hkd hje hpv hbv hgk hr htr ch
    by_cases hz : bv = 0
    · subst hz
      go_wp2_with fail
      refine (holds_no p g (k * 3) wr t2).mono ?_
      rintro e w1 ⟨rfl, nq, rfl⟩
      go_wp2_with fail
      go_ret
      refine ⟨.inr ⟨?_, rfl⟩, below_drewN' _ hbr⟩
      refine Hash.stop hh (d := d) ?_ ?_
      · rw [← HS.out, ← HK.out]; exact HV.out.symm
      · intro e he; rw [← HS.out]; exact (HB.out e he).2
    · go_wp2_with fail
      refine (holds_yes p g (k * 3) bv wr hz t2 t1 drd).mono ?_
      rintro e w1 ⟨rfl, nq, rfl⟩
      go_wp2_with fail
      · go_ret
        have he : (pv == q) = true := by assumption
        exact ⟨.inl ⟨k, hkC, by rw [← HV.out]; exact hz, HP.out.symm.trans (eq_of_beqI he), rfl⟩, below_drewN' _ hbr⟩
      · have he : (pv == q) = false := by assumption
        go_roundg (gk - 1)
        case measure => have := HG.out; omega
        case rel =>
          refine ⟨d + 1, j, by have := HG.out; omega, next_mod HK.out HJ.out, rfl, fun e hlt => ?_, below_drewN' _ hbr⟩
          rcases Nat.lt_or_ge e d with h1 | h1
          · exact HB.out e h1
          · obtain rfl : e = d := by omega
            rw [← HK.out, ← HV.out, ← HP.out]
            exact ⟨hz, ne_of_beqI he⟩
end Go.Proofs.Qxb6601295a
