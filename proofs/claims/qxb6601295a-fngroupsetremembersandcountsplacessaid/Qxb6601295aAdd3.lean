/-
  add: A GROUP WHOSE WORD IS NOT THERE YET, INTO A TABLE.
-/
import Derived.Test.Qxb6601295aAdd2
namespace Go.Proofs.Qxb6601295a
open Go.RowKit

theorem put_done {w w3 w4 : World} {p g C B : Nat} {F T : Nat → Int × Nat} {G P : List Int} {x : Int} (bel : Below p w w3) (hset : SetAt w3 p F P.length (.slice (some ⟨g, 0, none⟩) C C)) (htab : TabAt w3 g C T) (hpg : p < g) (pow : Pow2 C) (half : 2 * (P.length + 1) ≤ C) (most : C ≤ 32 + 4 * (P.length + 1)) (least : 32 ≤ C)
    (ent : Ent C T G P) (st : Stored w3 g C T (x / 64, B) w4) (hB : B = bitOf x) (hx : 0 ≤ x) (hx2 : x < 137438953472) (hout : x / 64 ∉ P) :
    Added w p G P x (.returned (.bool true)) (w4.setCell ⟨p, 24, none⟩ (.int .i64 ((P.length : Int) + 1))) := by
  obtain ⟨i, hi, hf, hh, ht⟩ := st.tab
  have hg := st.grown
  have hplt := hset.lt
  have hent := ent.new hi hf hout hx (by omega)
  rw [← hB] at hent
  have hs4 : SetAt w4 p F P.length (.slice (some ⟨g, 0, none⟩) C C) := hset.keep (hg.block p hplt (by simp; omega))
  refine ⟨ret_bool (ans_new (ent.miss hout)), ⟨x / 64 :: P, .inr ⟨F, g, C, _, ⟨hs4.inc, ht.keep (heap_setCell_other _ _ _ _ (by show g ≠ p; omega)), hpg, pow, by simpa using half, by simpa using most, least, hh, hent⟩⟩, by simp⟩, ?_⟩
  have hglt := htab.lt
  exact (bel.grown hg (by omega) (fun k hk => by cases hk; omega)).setCell (Nat.le_refl _) _

set_option maxHeartbeats 800000 in
theorem add_hash_room {w : World} {p g C : Nat} {F T : Nat → Int × Nat} {G P : List Int} (h : HashG w p F g C T G P) (x : Int) (hx : 0 ≤ x) (hx2 : x < 137438953472) (hout : x / 64 ∉ P) (hP : P.length ≤ 8192) (hroom : 2 * (P.length + 1) ≤ C) :
    Calls Try.prog 40 #[.pointer (some ⟨p, 0, none⟩), .int .i64 x] w fun e w' => Added w p G P x e w' := by
  have q48 := eqNil48
  have k49 := word_hash h.set h.tab h.pow h.hash h.free (x / 64) (by omega) (by omega)
  have hbit := wrap_bit x
  have hBl := bitOf_lt x
  obtain ⟨B, hB⟩ : ∃ B, B = bitOf x := ⟨_, rfl⟩
  rw [← hB] at hbit hBl
  have HB : Hid (B = bitOf x) := hB
  clear hB
  have hmost := h.most
  go_enter Try.func40, Try.ntmps40
  go_wp2_with fail
  refine k49.mono ?_
  rintro e w1 ⟨hr, hb⟩
  clear k49
  rcases hr with ⟨i, hi, ho, hp, rfl⟩ | ⟨hno, rfl⟩
  · exact absurd ((h.ent.plc _).2 ⟨i, hi, ho, hp⟩) hout
  · have h1 := h.set.ext hb
    have t1 := h.tab.ext hb
    have hlt := h1.lt
    have c24 := h1.words
    have c25 := h1.hashed
    have c26 := h1.round
    have f24 := h1.fz 24
    go_wp2_with fail
    go_quiet (fail)
    go_wp2_with fail
    have hset3 : SetAt ((w1.alloc (.cells #[.int .i32 (x / 64), .int .u32 0, .int .u64 B] 46)).drewN nq) p F P.length (.slice (some ⟨g, 0, none⟩) C C) := h1.keep (Below.heap_alloc w1 _ p hlt)
    have htab3 : TabAt ((w1.alloc (.cells #[.int .i32 (x / 64), .int .u32 0, .int .u64 B] 46)).drewN nq) g C T := t1.keep (Below.heap_alloc w1 _ g t1.lt)
    have hbel : Below p w ((w1.alloc (.cells #[.int .i32 (x / 64), .int .u32 0, .int .u64 B] 46)).drewN nq) := below_drewN' _ ((hb.mono (Nat.le_of_lt h.set.lt)).alloc (Nat.le_of_lt hlt) _)
    clear c24 c25 c26 f24 h1 t1 hb
    refine (put_any hset3 htab3 h.pow h.hash h.free (x / 64) B (by omega) (by omega) hno).mono ?_
    rintro e w4 ⟨rfl, hsto⟩
    have hs4 : SetAt w4 p F P.length (.slice (some ⟨g, 0, none⟩) C C) := hset3.keep (hsto.grown.block p hset3.lt (by simp; have := h.pg; omega))
    have c24 := hs4.words
    have f24 := hs4.fz 24
    have hfin := put_done hbel hset3 htab3 h.pg h.pow hroom (by omega) h.least h.ent hsto HB.out hx hx2 hout
    clear hset3 htab3 hbel hsto hs4 hno
    go_wp2_with fail
    go_ret
    exact hfin

/-- The table behind a rehash. -/
theorem Moving.ent {w wr : World} {p n C N : Nat} {F E : Nat → Int × Nat} {G P : List Int} (h : Moving w p F n C E N wr) (he : Ent N E G P) : ∃ T, TabAt wr w.heap.size C T ∧ Hash C (hs C) T ∧ Ent C T G P := by
  obtain ⟨T, h1, h2, h3⟩ := h.tab
  exact ⟨T, h1, h2, he.moved h3.words h2.dist h3.low⟩

theorem Ent.no_place {C : Nat} {T : Nat → Int × Nat} {G P : List Int} {q : Int} (h : Ent C T G P) (hq : q ∉ P) : ∀ j, j < C → (T j).2 ≠ 0 → (T j).1 ≠ q := fun j hj oj e => hq ((h.plc _).2 ⟨j, hj, oj, e⟩)

theorem Ent.free {C : Nat} {T : Nat → Int × Nat} {G P : List Int} (h : Ent C T G P) (hP : P.length < C) : ∃ f, f < C ∧ (T f).2 = 0 :=
  free_slot (L := P) h.dist (fun j hj oj => (h.plc _).2 ⟨j, hj, oj, rfl⟩) hP

theorem Moving.below {w0 w wr : World} {p n C k : Nat} {F E : Nat → Int × Nat} (h : Moving w p F n C E k wr) (hb : Below p w0 w) (hp : p < w.heap.size) : Below p w0 wr :=
  hb.trans ⟨h.os, h.tape, h.output, h.size, fun j hj => h.block j (by omega) (by omega)⟩

set_option maxHeartbeats 1600000 in
theorem add_few_full {w : World} {p : Nat} {F : Nat → Int × Nat} {G P : List Int} (h : FewG w p F G P) (x : Int) (hx : 0 ≤ x) (hx2 : x < 137438953472) (hout : x / 64 ∉ P) (hfull : 8 ≤ P.length) :
    Calls Try.prog 40 #[.pointer (some ⟨p, 0, none⟩), .int .i64 x] w fun e w' => Added w p G P x e w' := by
  have q48 := eqNil48
  have k49 := word_few h.set h.le h.occ (x / 64)
  have hbit := wrap_bit x
  have hBl := bitOf_lt x
  obtain ⟨B, hB⟩ : ∃ B, B = bitOf x := ⟨_, rfl⟩
  rw [← hB] at hbit hBl
  have HB : Hid (B = bitOf x) := hB
  clear hB
  have hle := h.le
  have sl := fun w => slice47_all w p
  go_enter Try.func40, Try.ntmps40
  go_wp2_with fail
  refine k49.mono ?_
  rintro e w1 ⟨hr, hb⟩
  clear k49
  rcases hr with ⟨i, hi, ho, hp, rfl⟩ | ⟨hno, rfl⟩
  · exact absurd ((h.ent.plc _).2 ⟨i, hi, ho, hp⟩) hout
  · have h1 := h.set.ext hb
    have hlt := h1.lt
    have c24 := h1.words
    have c25 := h1.hashed
    have c26 := h1.round
    go_wp2_with fail
    have hset2 : SetAt (w1.alloc (.cells #[.int .i32 (x / 64), .int .u32 0, .int .u64 B] 46)) p F P.length (.slice none 0 0) := h1.keep (Below.heap_alloc w1 _ p hlt)
    have hbel : Below p w (w1.alloc (.cells #[.int .i32 (x / 64), .int .u32 0, .int .u64 B] 46)) := (hb.mono (Nat.le_of_lt h.set.lt)).alloc (Nat.le_of_lt hlt) _
    have hloc : (w1.alloc (.cells #[.int .i32 (x / 64), .int .u32 0, .int .u64 B] 46)).heap[w1.heap.size]? = some (.cells #[.int .i32 (x / 64), .int .u32 0, .int .u64 B] 46 (0, 0)) := heap_alloc_new w1 _
    have hsz2 : (w1.alloc (.cells #[.int .i32 (x / 64), .int .u32 0, .int .u64 B] 46)).heap.size = w1.heap.size + 1 := by simp
    generalize w1.alloc (.cells #[.int .i32 (x / 64), .int .u32 0, .int .u64 B] 46) = w2 at *
    clear c24 c25 c26 h1 hb
    refine (rehash_any (b := p) (N := 8) (C := 32) hset2 (fun wr hs _ => hs.ents) h.ent (by omega) pow2_32 (by decide) (by decide)).mono ?_
    rintro e w3 ⟨rfl, hmv⟩
    have hplt2 := hset2.lt
    have hset3 := hmv.set
    have hbel3 := hmv.below hbel hplt2
    obtain ⟨T3, htab3, hhash3, hent3⟩ := hmv.ent h.ent
    have hloc3 : w3.heap[w1.heap.size]? = some (.cells #[.int .i32 (x / 64), .int .u32 0, .int .u64 B] 46 (0, 0)) := (hmv.block w1.heap.size (by omega) (by omega)).trans hloc
    have x0 : w3.cell? ⟨w1.heap.size, 0, none⟩ = some (.int .i32 (x / 64)) := by rw [cell_of_row w3 _ _ _ _ _ hloc3]; rfl
    have x1 : w3.cell? ⟨w1.heap.size, 1, none⟩ = some (.int .u32 0) := by rw [cell_of_row w3 _ _ _ _ _ hloc3]; rfl
    have x2 : w3.cell? ⟨w1.heap.size, 2, none⟩ = some (.int .u64 B) := by rw [cell_of_row w3 _ _ _ _ _ hloc3]; rfl
    clear hmv hloc hloc3 hbel hset2 sl
    go_wp2_with fail
    refine (put_any hset3 htab3 pow2_32 hhash3 (hent3.free (by omega)) (x / 64) B (by omega) (by omega) (hent3.no_place hout)).mono ?_
    rintro e w4 ⟨rfl, hsto⟩
    have hs4 : SetAt w4 p F P.length (.slice (some ⟨w2.heap.size, 0, none⟩) 32 32) := hset3.keep (hsto.grown.block p hset3.lt (by simp; omega))
    have c24 := hs4.words
    have f24 := hs4.fz 24
    have hfin := put_done hbel3 hset3 htab3 hplt2 pow2_32 (by omega) (by omega) (by omega) hent3 hsto HB.out hx hx2 hout
    clear hset3 htab3 hbel3 hsto hs4 hno x0 x1 x2 hhash3 hent3
    go_wp2_with fail
    go_ret
    exact hfin

set_option maxHeartbeats 1600000 in
theorem add_hash_full {w : World} {p g C : Nat} {F T : Nat → Int × Nat} {G P : List Int} (h : HashG w p F g C T G P) (x : Int) (hx : 0 ≤ x) (hx2 : x < 137438953472) (hout : x / 64 ∉ P) (hP : P.length ≤ 8192) (hfull : C < 2 * (P.length + 1)) :
    Calls Try.prog 40 #[.pointer (some ⟨p, 0, none⟩), .int .i64 x] w fun e w' => Added w p G P x e w' := by
  have q48 := eqNil48
  have k49 := word_hash h.set h.tab h.pow h.hash h.free (x / 64) (by omega) (by omega)
  have hbit := wrap_bit x
  have hBl := bitOf_lt x
  obtain ⟨B, hB⟩ : ∃ B, B = bitOf x := ⟨_, rfl⟩
  rw [← hB] at hbit hBl
  have HB : Hid (B = bitOf x) := hB
  clear hB
  have hmost := h.most
  have hleast := h.least
  have hhalf := h.half
  have hpg := h.pg
  have hpow2 : Pow2 (2 * C) := h.pow.double (by omega)
  go_enter Try.func40, Try.ntmps40
  go_wp2_with fail
  refine k49.mono ?_
  rintro e w1 ⟨hr, hb⟩
  clear k49
  rcases hr with ⟨i, hi, ho, hp, rfl⟩ | ⟨hno, rfl⟩
  · exact absurd ((h.ent.plc _).2 ⟨i, hi, ho, hp⟩) hout
  · have h1 := h.set.ext hb
    have t1 := h.tab.ext hb
    have hlt := h1.lt
    have c24 := h1.words
    have c25 := h1.hashed
    have c26 := h1.round
    go_wp2_with fail
    go_quiet (fail)
    go_wp2_with fail
    have hset2 : SetAt (w1.alloc (.cells #[.int .i32 (x / 64), .int .u32 0, .int .u64 B] 46)) p F P.length (.slice (some ⟨g, 0, none⟩) C C) := h1.keep (Below.heap_alloc w1 _ p hlt)
    have htab2 : TabAt (w1.alloc (.cells #[.int .i32 (x / 64), .int .u32 0, .int .u64 B] 46)) g C T := t1.keep (Below.heap_alloc w1 _ g t1.lt)
    have hbel : Below p w (w1.alloc (.cells #[.int .i32 (x / 64), .int .u32 0, .int .u64 B] 46)) := (hb.mono (Nat.le_of_lt h.set.lt)).alloc (Nat.le_of_lt hlt) _
    have hloc : (w1.alloc (.cells #[.int .i32 (x / 64), .int .u32 0, .int .u64 B] 46)).heap[w1.heap.size]? = some (.cells #[.int .i32 (x / 64), .int .u32 0, .int .u64 B] 46 (0, 0)) := heap_alloc_new w1 _
    have hsz2 : (w1.alloc (.cells #[.int .i32 (x / 64), .int .u32 0, .int .u64 B] 46)).heap.size = w1.heap.size + 1 := by simp
    generalize w1.alloc (.cells #[.int .i32 (x / 64), .int .u32 0, .int .u64 B] 46) = w2 at *
    clear c24 c25 c26 h1 t1 hb
    have d25 := hset2.hashed
    have k50 : ∀ m, Calls Try.prog 50 #[.pointer (some ⟨p, 0, none⟩), .slice (some ⟨g, 0, none⟩) C C, .int .i64 (IntKind.i64.wrap (2 * (C : Int)))] (w2.drewN m) fun e w' => e = .returned (.tuple #[]) ∧ Moving w2 p F P.length (2 * C) T C w' := by
      intro m
      rw [show IntKind.i64.wrap (2 * (C : Int)) = ((2 * C : Nat) : Int) by rw [IntKind.wrap_i64]; omega]
      refine (rehash_any (w := w2.drewN m) (b := g) (N := C) (C := 2 * C) hset2 (fun wr _ hbl => ((htab2.keep (hbl g htab2.lt (by omega))).ents)) h.ent (by omega) hpow2 (by omega) (by omega)).mono ?_
      rintro e w3 ⟨rfl, hmv⟩
      exact ⟨rfl, ⟨hmv.set, hmv.tab, hmv.os, hmv.tape, hmv.output, hmv.size, hmv.block⟩⟩
    go_region_with (go_at_call 50; refine (k50 _).mono ?_; rintro e w3 ⟨rfl, hmv⟩)
    all_goals clear k50 d25 htab2
    all_goals
      have hplt2 := hset2.lt
      have hset3 := hmv.set
      have hbel3 := hmv.below hbel hplt2
      obtain ⟨T3, htab3, hhash3, hent3⟩ := hmv.ent h.ent
      have hloc3 : w3.heap[w1.heap.size]? = some (.cells #[.int .i32 (x / 64), .int .u32 0, .int .u64 B] 46 (0, 0)) := (hmv.block w1.heap.size (by omega) (by omega)).trans hloc
      have x0 : w3.cell? ⟨w1.heap.size, 0, none⟩ = some (.int .i32 (x / 64)) := by rw [cell_of_row w3 _ _ _ _ _ hloc3]; rfl
      have x1 : w3.cell? ⟨w1.heap.size, 1, none⟩ = some (.int .u32 0) := by rw [cell_of_row w3 _ _ _ _ _ hloc3]; rfl
      have x2 : w3.cell? ⟨w1.heap.size, 2, none⟩ = some (.int .u64 B) := by rw [cell_of_row w3 _ _ _ _ _ hloc3]; rfl
      clear hmv hloc hloc3 hbel hset2
      go_wp2_with fail
      refine (put_any hset3 htab3 hpow2 hhash3 (hent3.free (by omega)) (x / 64) B (by omega) (by omega) (hent3.no_place hout)).mono ?_
      rintro e w4 ⟨rfl, hsto⟩
      have hs4 : SetAt w4 p F P.length (.slice (some ⟨w2.heap.size, 0, none⟩) (2 * C) (2 * C)) := hset3.keep (hsto.grown.block p hset3.lt (by simp; omega))
      have c24 := hs4.words
      have f24 := hs4.fz 24
      have hfin := put_done hbel3 hset3 htab3 hplt2 hpow2 (by omega) (by omega) (by omega) hent3 hsto HB.out hx hx2 hout
      clear hset3 htab3 hbel3 hsto hs4 hno x0 x1 x2 hhash3 hent3
      go_wp2_with fail
      go_ret
      exact hfin
end Go.Proofs.Qxb6601295a
