/-
  add: A GROUP WHOSE WORD IS NOT THERE YET.
-/
import Derived.Test.Qxb6601295aAdd
import Derived.Deep.RegionWith
namespace Go.Proofs.Qxb6601295a
open Go.RowKit

theorem ans_new {G : List Int} {x : Int} (h : x ∉ G) : true = !inI G x := by rw [inI_false.2 h]; rfl

theorem SetAt.inc {w : World} {p n : Nat} {F : Nat → Int × Nat} {hv : Value} (h : SetAt w p F n hv) : SetAt (w.setCell ⟨p, 24, none⟩ (.int .i64 ((n : Int) + 1))) p F (n + 1) hv := by
  have := h.setWords (n + 1)
  rwa [show (((n + 1 : Nat)) : Int) = (n : Int) + 1 by omega] at this

theorem few_grown {w w1 : World} {p B : Nat} {F : Nat → Int × Nat} {G P : List Int} {x : Int} (h : FewG w p F G P) (hb : Below w.heap.size w w1) (h1 : SetAt w1 p F P.length (.slice none 0 0)) (hB : B = bitOf x) (hx : 0 ≤ x) (hx2 : x < 137438953472) (hout : x / 64 ∉ P) (hroom : P.length < 8) (o : Obj) :
    Added w p G P x (.returned (.bool true)) (((put3 w1 p (P.length * 3) (x / 64, B)).setCell ⟨p, 24, none⟩ (.int .i64 ((P.length : Int) + 1))).alloc o).drew := by
  have hlt := h1.lt
  have hs2 := ((h1.put hroom (x / 64, B)).inc)
  have hz : (F P.length).2 = 0 := by
    rcases Nat.eq_zero_or_pos (F P.length).2 with e | e
    · exact e
    · have := (h.occ P.length hroom).1 (by omega); omega
  have hent := h.ent.new hroom hz hout hx (by omega)
  rw [← hB] at hent
  have hbp : Below p w w1 := hb.mono (Nat.le_of_lt h.set.lt)
  have hsz : ((put3 w1 p (P.length * 3) (x / 64, B)).setCell ⟨p, 24, none⟩ (.int .i64 ((P.length : Int) + 1))).heap.size = w1.heap.size := by simp [put3, World.setCell]
  refine ⟨ret_bool (ans_new (h.ent.miss hout)), ⟨x / 64 :: P, .inl ⟨upd F P.length (x / 64, B), ⟨?_, ?_, ?_, hent⟩⟩, by simp⟩, ?_⟩
  · exact hs2.keep (Below.heap_alloc _ _ p (by rw [hsz]; exact hlt))
  · simp; omega
  · intro i hi
    by_cases e : i = P.length
    · subst e
      rw [upd_same]
      refine ⟨fun _ => by simp, fun _ => ?_⟩
      show B ≠ 0
      rw [hB]
      exact bitOf_pos x
    · rw [upd_other _ _ e, h.occ i hi]
      simp
      omega
  · exact (((put3_below (x / 64, B) hbp (Nat.le_refl _)).setCell (Nat.le_refl _) _).alloc (by rw [hsz]; omega) o).drew

set_option maxHeartbeats 800000 in
theorem add_few_room {w : World} {p : Nat} {F : Nat → Int × Nat} {G P : List Int} (h : FewG w p F G P) (x : Int) (hx : 0 ≤ x) (hx2 : x < 137438953472) (hout : x / 64 ∉ P) (hroom : P.length < 8) :
    Calls Try.prog 40 #[.pointer (some ⟨p, 0, none⟩), .int .i64 x] w fun e w' => Added w p G P x e w' := by
  have q48 := eqNil48
  have k49 := word_few h.set h.le h.occ (x / 64)
  have hbit := wrap_bit x
  have hBl := bitOf_lt x
  obtain ⟨B, hB⟩ : ∃ B, B = bitOf x := ⟨_, rfl⟩
  rw [← hB] at hbit hBl
  have HB : Hid (B = bitOf x) := hB
  clear hB
  go_enter Try.func40, Try.ntmps40
  go_wp2_with fail
  refine k49.mono ?_
  rintro e w1 ⟨hr, hb⟩
  clear k49
  rcases hr with ⟨i, hi, ho, hp, rfl⟩ | ⟨hno, rfl⟩
  · exact absurd ((h.ent.plc _).2 ⟨i, hi, ho, hp⟩) hout
  · have h1 := h.set.ext hb
    have hlt := h1.lt
    have c24 := h1.words
    have c25 := h1.hashed
    have c26 := h1.round
    have f24 := h1.fz 24
    have c0 := h1.c0 hroom
    have c1 := h1.c1 hroom
    have c2 := h1.c2 hroom
    have f0 := h1.fz (P.length * 3)
    have f1 := h1.fz (P.length * 3 + 1)
    have f2 := h1.fz (P.length * 3 + 2)
    go_wp2_with fail
    go_region
    all_goals go_wp2
    all_goals go_ret
    all_goals exact few_grown h hb h1 HB.out hx hx2 hout hroom _
end Go.Proofs.Qxb6601295a
