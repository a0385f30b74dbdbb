/-
  rehash: ALL WORDS INTO A NEW TABLE.
-/
import Derived.Test.Qxb6601295aPut
namespace Go.Proofs.Qxb6601295a
open Go.RowKit

theorem Try.info46 : (Try.prog.info? 46).map (fun i => (i.zero, i.size, i.bytes)) = some (some (.agg #[.int .i32 0, .int .u32 0, .int .u64 0]), 3, 16) := by kernel_rfl

/-- The row of a new table. -/
def zeroRow (C : Nat) : Array Value := madeCells #[.int .i32 0, .int .u32 0, .int .u64 0] (C * 3)

theorem run_make48 (C : Nat) (hC : C ≤ 1048576) (w : World) : (Instr.makeSlice 48 (.int .i64 (C : Int)) (.int .i64 (C : Int))).run Try.prog w = .ok (.slice (some ⟨w.heap.size, 0, none⟩) C C) (w.alloc (.cells (zeroRow C) 46)) := by
  obtain ⟨i, hi, hz0, hz1, hz2⟩ := info_parts Try.info46
  have hr := run_make (P := Try.prog) w 48 46 i _ Try.underlying48 hi hz0 .i64 .i64 C C (by omega) (Int.le_refl _) (by rw [hz2]; omega) (by omega)
  rw [hz1] at hr
  simpa [Value.cells, zeroRow] using hr

theorem zero_word (C i : Nat) (hi : i < C) : WordIn (zeroRow C) (i * 3) (0, 0) := by
  unfold zeroRow madeCells WordIn
  refine ⟨?_, ?_, ?_⟩
  · simp [show i * 3 < C * 3 by omega]
  · simp [show i * 3 + 1 < C * 3 by omega, Nat.add_mod]
  · simp [show i * 3 + 2 < C * 3 by omega, Nat.add_mod]

theorem zero_size (C : Nat) : (zeroRow C).size = C * 3 := by simp [zeroRow, size_madeCells]

/-- The first N words of block b are E. -/
def EntAt (w : World) (b N : Nat) (E : Nat → Int × Nat) : Prop := ∀ i, i < N → w.cell? ⟨b, i * 3, none⟩ = some (.int .i32 (E i).1) ∧ w.cell? ⟨b, i * 3 + 1, none⟩ = some (.int .u32 0) ∧ w.cell? ⟨b, i * 3 + 2, none⟩ = some (.int .u64 (E i).2)

theorem TabAt.ents {w : World} {g C : Nat} {T : Nat → Int × Nat} (h : TabAt w g C T) : EntAt w g C T := fun _ hi => ⟨h.c0 hi, h.c1 hi, h.c2 hi⟩
theorem SetAt.ents {w : World} {p n : Nat} {F : Nat → Int × Nat} {hv : Value} (h : SetAt w p F n hv) : EntAt w p 8 F := fun _ hi => ⟨h.c0 hi, h.c1 hi, h.c2 hi⟩

/-- T holds just the words of E ahead of k. -/
structure Moved (E : Nat → Int × Nat) (k C : Nat) (T : Nat → Int × Nat) : Prop where
  words : ∀ v : Int × Nat, v.2 ≠ 0 → ((∃ j, j < C ∧ T j = v) ↔ ∃ i, i < k ∧ E i = v)
  low : ∀ j, j < C → (T j).2 < 18446744073709551616 ∧ 0 ≤ (T j).1 ∧ (T j).1 < 2147483648

theorem moved_zero (E : Nat → Int × Nat) (C : Nat) : Moved E 0 C (fun _ => (0, 0)) := by
  refine ⟨fun v hv => ⟨?_, ?_⟩, fun j _ => by simp⟩
  · rintro ⟨j, _, e⟩
    exact absurd (congrArg Prod.snd e).symm hv
  · rintro ⟨i, hi, _⟩
    omega

theorem Moved.skip {E T : Nat → Int × Nat} {k C : Nat} (h : Moved E k C T) (hz : (E k).2 = 0) : Moved E (k + 1) C T := by
  refine ⟨fun v hv => (h.words v hv).trans ⟨?_, ?_⟩, h.low⟩
  · rintro ⟨i, hi, e⟩
    exact ⟨i, by omega, e⟩
  · rintro ⟨i, hi, e⟩
    refine ⟨i, ?_, e⟩
    rcases Nat.lt_or_ge i k with h1 | h1
    · exact h1
    · obtain rfl : i = k := by omega
      rw [e] at hz
      exact absurd hz hv

theorem Moved.step {E T : Nat → Int × Nat} {k C i : Nat} (h : Moved E k C T) (hi : i < C) (hf : (T i).2 = 0) (hl : (E k).2 < 18446744073709551616 ∧ 0 ≤ (E k).1 ∧ (E k).1 < 2147483648) : Moved E (k + 1) C (upd T i (E k)) := by
  refine ⟨fun v hv => ⟨?_, ?_⟩, fun j hj => ?_⟩
  · rintro ⟨j, hj, e⟩
    by_cases ej : j = i
    · subst ej
      rw [upd_same] at e
      exact ⟨k, Nat.lt_succ_self _, e⟩
    · rw [upd_other _ _ ej] at e
      obtain ⟨a, ha, ea⟩ := (h.words v hv).1 ⟨j, hj, e⟩
      exact ⟨a, by omega, ea⟩
  · rintro ⟨a, ha, e⟩
    rcases Nat.lt_or_ge a k with h1 | h1
    · obtain ⟨j, hj, ej⟩ := (h.words v hv).2 ⟨a, h1, e⟩
      have hne : j ≠ i := by
        rintro rfl
        rw [ej] at hf
        exact hv hf
      exact ⟨j, hj, by rw [upd_other _ _ hne]; exact ej⟩
    · obtain rfl : a = k := by omega
      exact ⟨i, hi, by rw [upd_same]; exact e⟩
  · by_cases ej : j = i
    · subst ej; rw [upd_same]; exact hl
    · rw [upd_other _ _ ej]; exact h.low j hj

theorem Moved.none {E T : Nat → Int × Nat} {k C N : Nat} {G P : List Int} (h : Moved E k C T) (he : Ent N E G P) (hk : k < N) (hz : (E k).2 ≠ 0) : ∀ j, j < C → (T j).2 ≠ 0 → (T j).1 ≠ (E k).1 := by
  intro j hj oj e
  obtain ⟨i, hi, ei⟩ := (h.words (T j) oj).1 ⟨j, hj, rfl⟩
  have := he.dist i k (by omega) hk (by rw [ei]; exact oj) hz (by rw [ei]; exact e)
  omega

theorem Moved.free {E T : Nat → Int × Nat} {k C N : Nat} {G P : List Int} (h : Moved E k C T) (he : Ent N E G P) (hk : k ≤ N) (hh : Hash C (hs C) T) (hP : P.length < C) : ∃ f, f < C ∧ (T f).2 = 0 := by
  refine free_slot (L := P) hh.dist (fun j hj oj => ?_) hP
  obtain ⟨i, hi, ei⟩ := (h.words (T j) oj).1 ⟨j, hj, rfl⟩
  exact (he.plc _).2 ⟨i, by omega, by rw [ei]; exact oj, by rw [ei]⟩

/-- The world while the words are moved into the new block. -/
structure Moving (w : World) (p : Nat) (F : Nat → Int × Nat) (n C : Nat) (E : Nat → Int × Nat) (k : Nat) (wr : World) : Prop where
  set : SetAt wr p F n (.slice (some ⟨w.heap.size, 0, none⟩) C C)
  tab : ∃ T, TabAt wr w.heap.size C T ∧ Hash C (hs C) T ∧ Moved E k C T
  os : wr.os = w.os
  tape : wr.tape = w.tape
  output : wr.output = w.output
  size : w.heap.size ≤ wr.heap.size
  block : ∀ j, j < w.heap.size → j ≠ p → wr.heap[j]? = w.heap[j]?

theorem Moving.start {w : World} {p n C : Nat} {F : Nat → Int × Nat} {hv : Value} (h : SetAt w p F n hv) (E : Nat → Int × Nat) : Moving w p F n C E 0 ((w.setCell ⟨p, 25, none⟩ (.slice (some ⟨w.heap.size, 0, none⟩) C C)).alloc (.cells (zeroRow C) 46)) := by
  have hlt := h.lt
  have hsz : (w.setCell ⟨p, 25, none⟩ (.slice (some ⟨w.heap.size, 0, none⟩) C C)).heap.size = w.heap.size := by simp [World.setCell]
  refine ⟨(h.setHashed _).keep (Below.heap_alloc _ _ p (by rw [hsz]; exact hlt)), ⟨fun _ => (0, 0), ⟨zeroRow C, ?_, zero_size C, fun i hi => zero_word C i hi⟩, hash_empty C (hs C), moved_zero E C⟩, rfl, rfl, rfl, by simp, fun j hj hne => ?_⟩
  · have := heap_alloc_new (w.setCell ⟨p, 25, none⟩ (.slice (some ⟨w.heap.size, 0, none⟩) C C)) (.cells (zeroRow C) 46)
    rwa [hsz] at this
  · exact (Below.heap_alloc _ _ j (by rw [hsz]; exact hj)).trans (heap_setCell_other w _ j _ hne)


theorem Moving.drew {w wr : World} {p n C k : Nat} {F E : Nat → Int × Nat} (h : Moving w p F n C E k wr) (m : Nat) : Moving w p F n C E k (wr.drewN m) :=
  ⟨h.set, h.tab, h.os, h.tape, h.output, h.size, h.block⟩

theorem Moving.skip {w wr : World} {p n C k : Nat} {F E : Nat → Int × Nat} (h : Moving w p F n C E k wr) (hz : (E k).2 = 0) : Moving w p F n C E (k + 1) wr := by
  obtain ⟨T, h1, h2, h3⟩ := h.tab
  exact ⟨h.set, ⟨T, h1, h2, h3.skip hz⟩, h.os, h.tape, h.output, h.size, h.block⟩

theorem Moving.stored {w wr w' : World} {p n C k : Nat} {F E T : Nat → Int × Nat} (h : Moving w p F n C E k wr) (hp : p < w.heap.size) (hm : Moved E k C T) (hl : (E k).2 < 18446744073709551616 ∧ 0 ≤ (E k).1 ∧ (E k).1 < 2147483648) (hs : Stored wr w.heap.size C T (E k) w') : Moving w p F n C E (k + 1) w' := by
  obtain ⟨i, hi, hf, hh, ht⟩ := hs.tab
  have hg := hs.grown
  have hsz := h.size
  refine ⟨h.set.keep (hg.block p (by omega) (by simp; omega)), ⟨_, ht, hh, hm.step hi hf hl⟩, hg.os.trans h.os, hg.tape.trans h.tape, hg.output.trans h.output, Nat.le_trans h.size hg.size, fun j hj hne => ?_⟩
  exact (hg.block j (by omega) (by simp; omega)).trans (h.block j hj hne)

set_option maxHeartbeats 800000 in
theorem rehash_any {w : World} {p n b N C : Nat} {F E : Nat → Int × Nat} {G P : List Int} {a0 : Option Addr} {l0 c0 : Nat} (h : SetAt w p F n (.slice a0 l0 c0)) (hE : ∀ wr, SetAt wr p F n (.slice (some ⟨w.heap.size, 0, none⟩) C C) → (∀ j, j < w.heap.size → j ≠ p → wr.heap[j]? = w.heap[j]?) → EntAt wr b N E)
    (he : Ent N E G P) (hP : P.length < C) (hC : Pow2 C) (hC2 : C ≤ 1048576) (hN : N ≤ 1048576) :
    Calls Try.prog 50 #[.pointer (some ⟨p, 0, none⟩), .slice (some ⟨b, 0, none⟩) N N, .int .i64 C] w fun e w' => e = .returned (.tuple #[]) ∧ Moving w p F n C E N w' := by
  have ch := h.hashed
  have f25 := h.fz 25
  have hplt := h.lt
  have hmk := fun w => run_make48 C hC2 w
  have hst := Moving.start (C := C) h E
  go_enter Try.func50, Try.ntmps50
  go_wp2
  go_loopw [14] (fun i wr => ∃ k : Nat, k ≤ N ∧ i = .int .i64 k ∧ Moving w p F n C E k wr) (fun i _ => N - (intOf i).toNat)
  case atStart => exact ⟨0, Nat.zero_le _, rfl, hst⟩
  case round =>
    obtain ⟨k, hk, rfl, hmv⟩ := hrel
    clear hst hmk ch f25
    by_cases hlt : k < N
    · obtain ⟨T, htab, hhash, hmoved⟩ := hmv.tab
      obtain ⟨t0, t1, t2⟩ := hE wr hmv.set hmv.block k hlt
      have drd := hmv.set.round
      have hlow := he.low k hlt
      obtain ⟨pv, hpv⟩ : ∃ pv, pv = (E k).1 := ⟨_, rfl⟩
      obtain ⟨bv, hbv⟩ : ∃ bv, bv = (E k).2 := ⟨_, rfl⟩
      rw [← hpv] at t0
      rw [← hbv] at t2
      have HP : Hid (pv = (E k).1) := hpv
      have HV : Hid (bv = (E k).2) := hbv
      clear hpv hbv
      by_cases hz : bv = 0
      · subst hz
        go_wp2_with fail
        refine (holds_no p b (k * 3) wr t2).mono ?_
        rintro e w1 ⟨rfl, nq, rfl⟩
        go_wp2_with fail
        go_roundw
        case rel => exact ⟨k + 1, by omega, by go_num, (hmv.skip HV.out.symm).drew _⟩
        case measure => simp [intOf]; omega
      · have hz2 : (E k).2 ≠ 0 := by rw [← HV.out]; exact hz
        have hput := fun m => put_any (w := wr.drewN m) (hmv.drew m).set htab hC hhash (hmoved.free he (by omega) hhash hP) (E k).1 (E k).2 hlow.2.1 hlow.2.2 (hmoved.none he hlt hz2)
        rw [← HP.out, ← HV.out] at hput
        go_wp2_with fail
        refine (holds_yes p b (k * 3) bv wr hz t2 t1 drd).mono ?_
        rintro e w1 ⟨rfl, nq, rfl⟩
        go_wp2_with fail
        refine (hput nq).mono ?_
        rintro e w2 ⟨rfl, hsto⟩
        rw [HP.out, HV.out] at hsto
        have hmv2 := (hmv.drew nq).stored hplt hmoved hlow hsto
        clear hput hsto hmv htab hhash hmoved
        go_wp2_with fail
        go_roundw
        case rel => exact ⟨k + 1, by omega, by go_num, hmv2⟩
        case measure => simp [intOf]; omega
    · obtain rfl : k = N := by omega
      clear hE
      go_wp2
      go_end0
      exact ⟨rfl, hmv⟩
end Go.Proofs.Qxb6601295a
