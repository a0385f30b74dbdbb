/-
  put: A WORD INTO THE FIRST FREE SLOT.
-/
import Derived.Test.Qxb6601295aWord
namespace Go.Proofs.Qxb6601295a
open Go.RowKit

/-- What put leaves: the word in a free slot of the table in block g; no other block has turned. -/
structure Stored (w : World) (g C : Nat) (T : Nat → Int × Nat) (v : Int × Nat) (w' : World) : Prop where
  tab : ∃ i, i < C ∧ (T i).2 = 0 ∧ Hash C (hs C) (upd T i v) ∧ TabAt w' g C (upd T i v)
  grown : w.grownBy w' (some g)

theorem stored_mk {w wr : World} {g C d k b : Nat} {T : Nat → Int × Nat} {q : Int} (hh : Hash C (hs C) T) (hbw : Below w.heap.size w wr) (ht : TabAt wr g C T) (hk : k < C) (hd : d < C) (hkd : k = (hs C q + d) % C) (hf : (T k).2 = 0) (hb : ∀ e, e < d → (T ((hs C q + e) % C)).2 ≠ 0) (hn : ∀ j, j < C → (T j).2 ≠ 0 → (T j).1 ≠ q) (m : Nat) :
    Stored w g C T (q, b) (put3 (wr.drewN m) g (k * 3) (q, b)) := by
  refine ⟨⟨k, hk, hf, ?_, TabAt.put (w := wr.drewN m) ht hk (q, b)⟩, ?_⟩
  · rw [hkd] at hf ⊢
    exact hh.put hd hf hb hn
  · have hs2 : (put3 (wr.drewN m) g (k * 3) (q, b)).heap.size = wr.heap.size := by simp [put3, World.setCell]
    refine ⟨hbw.os, hbw.tape, hbw.output, by rw [hs2]; exact hbw.size, fun j hj hne => ?_⟩
    exact (put3_other (w := wr.drewN m) (q, b) (fun e => hne (by rw [e]))).trans (hbw.block j hj)

set_option maxHeartbeats 800000 in
theorem put_any {w : World} {p g n C : Nat} {F T : Nat → Int × Nat} (h : SetAt w p F n (.slice (some ⟨g, 0, none⟩) C C)) (ht : TabAt w g C T) (hC : Pow2 C) (hh : Hash C (hs C) T) (hf : ∃ f, f < C ∧ (T f).2 = 0)
    (q : Int) (b : Nat) (hq : 0 ≤ q) (hq2 : q < 2147483648) (hn : ∀ j, j < C → (T j).2 ≠ 0 → (T j).1 ≠ q) :
    Calls Try.prog 51 #[.pointer (some ⟨p, 0, none⟩), .agg #[.int .i32 q, .int .u32 0, .int .u64 b]] w fun e w' => e = .returned (.tuple #[]) ∧ Stored w g C T (q, b) w' := by
  have ch := h.hashed
  have hl := hC.le
  have hpos := hC.pos
  have hplt := h.lt
  have hglt := ht.lt
  go_enter Try.func51, Try.ntmps51
  go_wp2_with fail
  refine (slot_any C q _ hC hq hq2).mono ?_
  rintro e w' ⟨rfl, rfl⟩
  have hslt := hs_lt hpos q
  obtain ⟨s, hse⟩ : ∃ s, s = hs C q := ⟨_, rfl⟩
  rw [← hse] at hslt ⊢
  have HS : Hid (s = hs C q) := hse
  clear hse
  go_wp2_with fail
  go_loopg [5] C (fun gk i wr => ∃ d k : Nat, gk + d = C ∧ k = (s + d) % C ∧ i = .int .i64 k ∧ (∀ e, e < d → (T ((s + e) % C)).2 ≠ 0) ∧ Below (w.heap.size + 1) (w.alloc (.cells #[.int .i32 q, .int .u32 0, .int .u64 b] 46)) wr)
  case atStart => exact ⟨0, s, by omega, by rw [Nat.add_zero, Nat.mod_eq_of_lt hslt], rfl, by simp, Below.refl _ _⟩
  case round =>
    obtain ⟨d, k, hgk, hkd, rfl, hb, hbr⟩ := hrel
    have hkC : k < C := by rw [hkd]; exact Nat.mod_lt _ hpos
    have hdC : d < C := probe_lt hf hb
    have hbw : Below w.heap.size w wr := ((Below.refl _ _).alloc (Nat.le_refl _) _).trans (hbr.mono (Nat.le_succ _))
    have hr := h.ext hbw
    have htr := ht.ext hbw
    have dh := hr.hashed
    have t0 := htr.c0 hkC
    have t1 := htr.c1 hkC
    have t2 := htr.c2 hkC
    have drd := hr.round
    have z0 := htr.fz (k * 3)
    have z1 := htr.fz (k * 3 + 1)
    have z2 := htr.fz (k * 3 + 2)
    have x0 : wr.cell? ⟨w.heap.size, 0, none⟩ = some (.int .i32 q) := (hbr.cell (p := ⟨w.heap.size, 0, none⟩) (Nat.lt_succ_self _)).trans (by rw [World.cell?_alloc_at _ _ _ _ rfl]; rfl)
    have x1 : wr.cell? ⟨w.heap.size, 1, none⟩ = some (.int .u32 0) := (hbr.cell (p := ⟨w.heap.size, 1, none⟩) (Nat.lt_succ_self _)).trans (by rw [World.cell?_alloc_at _ _ _ _ rfl]; rfl)
    have x2 : wr.cell? ⟨w.heap.size, 2, none⟩ = some (.int .u64 b) := (hbr.cell (p := ⟨w.heap.size, 2, none⟩) (Nat.lt_succ_self _)).trans (by rw [World.cell?_alloc_at _ _ _ _ rfl]; rfl)
    have hmask := mask_step hC hkC
    obtain ⟨j, hje⟩ : ∃ j, j = (k + 1) % C := ⟨_, rfl⟩
    rw [← hje] at hmask
    obtain ⟨pv, hpv⟩ : ∃ pv, pv = (T k).1 := ⟨_, rfl⟩
    obtain ⟨bv, hbv⟩ : ∃ bv, bv = (T k).2 := ⟨_, rfl⟩
    rw [← hpv] at t0
    rw [← hbv] at t2
    have HB : Hid (∀ e, e < d → (T ((s + e) % C)).2 ≠ 0) := hb
    have HK : Hid (k = (s + d) % C) := hkd
    have HJ : Hid (j = (k + 1) % C) := hje
    have HP : Hid (pv = (T k).1) := hpv
    have HV : Hid (bv = (T k).2) := hbv
    have HG : Hid (gk + d = C) := hgk
    have HT : Hid (TabAt wr g C T) := htr
    clear hb hkd hje hpv hbv hgk hr htr ch
    by_cases hz : bv = 0
    · subst hz
      go_wp2_with fail
      refine (holds_no p g (k * 3) wr t2).mono ?_
      rintro e w1 ⟨rfl, nq, rfl⟩
      go_wp2_with fail
      go_region
      all_goals go_wp2
      all_goals go_end0
      all_goals exact ⟨rfl, stored_mk hh hbw HT.out hkC hdC (by rw [← HS.out]; exact HK.out) HV.out.symm (by rw [← HS.out]; exact HB.out) hn (nq + 1)⟩
    · go_wp2_with fail
      refine (holds_yes p g (k * 3) bv wr hz t2 t1 drd).mono ?_
      rintro e w1 ⟨rfl, nq, rfl⟩
      go_wp2_with fail
      go_roundg (gk - 1)
      case measure => have := HG.out; omega
      case rel =>
        refine ⟨d + 1, j, by have := HG.out; omega, next_mod HK.out HJ.out, rfl, fun e hlt => ?_, below_drewN' _ hbr⟩
        rcases Nat.lt_or_ge e d with h1 | h1
        · exact HB.out e h1
        · obtain rfl : e = d := by omega
          rw [← HK.out, ← HV.out]
          exact hz
end Go.Proofs.Qxb6601295a
