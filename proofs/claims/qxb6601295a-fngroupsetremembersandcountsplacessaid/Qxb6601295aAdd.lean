/-
  add: A GROUP INTO THE SET.
-/
import Derived.Test.Qxb6601295aRehash
namespace Go.Proofs.Qxb6601295a
open Go.RowKit

/-- Is x among G? -/
def inI (G : List Int) (x : Int) : Bool := decide (x ∈ G)
theorem inI_true {G : List Int} {x : Int} : inI G x = true ↔ x ∈ G := by simp [inI]
theorem inI_false {G : List Int} {x : Int} : inI G x = false ↔ x ∉ G := by simp [inI]

/-- The set in its own eight words. -/
structure FewG (w : World) (p : Nat) (F : Nat → Int × Nat) (G P : List Int) : Prop where
  set : SetAt w p F P.length (.slice none 0 0)
  le : P.length ≤ 8
  occ : ∀ i, i < 8 → ((F i).2 ≠ 0 ↔ i < P.length)
  ent : Ent 8 F G P

/-- The set in a hash table. -/
structure HashG (w : World) (p : Nat) (F : Nat → Int × Nat) (g C : Nat) (T : Nat → Int × Nat) (G P : List Int) : Prop where
  set : SetAt w p F P.length (.slice (some ⟨g, 0, none⟩) C C)
  tab : TabAt w g C T
  pg : p < g
  pow : Pow2 C
  half : 2 * P.length ≤ C
  most : C ≤ 32 + 4 * P.length
  least : 32 ≤ C
  hash : Hash C (hs C) T
  ent : Ent C T G P

def GSet (w : World) (p : Nat) (G P : List Int) : Prop := (∃ F, FewG w p F G P) ∨ ∃ F g C T, HashG w p F g C T G P

theorem HashG.free {w : World} {p g C : Nat} {F T : Nat → Int × Nat} {G P : List Int} (h : HashG w p F g C T G P) : ∃ f, f < C ∧ (T f).2 = 0 := by
  refine free_slot (L := P) h.hash.dist (fun j hj oj => (h.ent.plc _).2 ⟨j, hj, oj, rfl⟩) ?_
  have := h.half
  have := h.least
  omega

/-- What add answers and leaves. -/
structure Added (w : World) (p : Nat) (G P : List Int) (x : Int) (e : Ending) (w' : World) : Prop where
  ans : e = .returned (.bool (!inI G x))
  set : ∃ Q, GSet w' p (x :: G) Q ∧ Q.length ≤ P.length + 1
  below : Below p w w'

theorem wrap_bit (x : Int) : IntKind.u64.wrap (2 ^ (x % 64).toNat) = (bitOf x : Int) := by
  rw [IntKind.wrap_u64]
  have h := bitOf_lt x
  have e : ((2 : Int) ^ (x % 64).toNat) = (bitOf x : Int) := by unfold bitOf; exact (Int.natCast_pow 2 _).symm
  rw [e]
  omega

theorem ans_bit {a : Nat} {G : List Int} {x : Int} (h : a = 0 ↔ x ∉ G) : ((a : Int) == 0) = !inI G x := by
  cases hi : inI G x
  · have := h.2 (inI_false.1 hi)
    simp [this]
  · have hn : ¬ a = 0 := fun e => h.1 e (inI_true.1 hi)
    simp [hn]

set_option maxHeartbeats 800000 in
theorem add_few_hit {w : World} {p : Nat} {F : Nat → Int × Nat} {G P : List Int} (h : FewG w p F G P) (x : Int) (hx : 0 ≤ x) (hx2 : x < 137438953472) (hin : x / 64 ∈ P) :
    Calls Try.prog 40 #[.pointer (some ⟨p, 0, none⟩), .int .i64 x] w fun e w' => Added w p G P x e w' := by
  have k49 := word_few h.set h.le h.occ (x / 64)
  have hbit := wrap_bit x
  have hBl := bitOf_lt x
  obtain ⟨B, hB⟩ : ∃ B, B = bitOf x := ⟨_, rfl⟩
  rw [← hB] at hbit hBl
  have HB : Hid (B = bitOf x) := hB
  clear hB
  go_enter Try.func40, Try.ntmps40
  go_wp2_with fail
  refine k49.mono ?_
  rintro e w1 ⟨hr, hb⟩
  clear k49
  rcases hr with ⟨i, hi, ho, hp, rfl⟩ | ⟨hno, rfl⟩
  · have h1 := h.set.ext hb
    have c2 := h1.c2 hi
    have f2 := h1.fz (i * 3 + 2)
    have hlow := (h.ent.low i hi).1
    obtain ⟨bv, hbv⟩ : ∃ bv, bv = (F i).2 := ⟨_, rfl⟩
    rw [← hbv] at c2 hlow
    have HV : Hid (bv = (F i).2) := hbv
    have hand := u64_and_nat bv B hlow hBl
    have hor := u64_or_nat bv B hlow hBl
    obtain ⟨A, hA⟩ : ∃ A, A = bv &&& B := ⟨_, rfl⟩
    obtain ⟨O, hO⟩ : ∃ O, O = bv ||| B := ⟨_, rfl⟩
    rw [← hA] at hand
    rw [← hO] at hor
    have HA : Hid (A = bv &&& B) := hA
    have HO : Hid (O = bv ||| B) := hO
    clear hA hO hbv
    go_wp2_with fail
    go_ret
    have hans : A = 0 ↔ x ∉ G := by rw [HA.out, HV.out, HB.out]; exact h.ent.hit hi ho hp hx
    have hent := h.ent.old hi ho hp hx
    rw [← HV.out, ← HB.out, ← HO.out] at hent
    have hset := h1.setBits hi O
    refine ⟨ret_bool (ans_bit hans), ⟨P, .inl ⟨_, hset, h.le, ?_, hent⟩, by omega⟩, (hb.mono (Nat.le_of_lt h.set.lt)).setCell (Nat.le_refl _) _⟩
    intro j hj
    by_cases e : j = i
    · subst e
      rw [upd_same]
      refine ⟨fun _ => (h.occ j hj).1 ho, fun _ => ?_⟩
      show O ≠ 0
      rw [HO.out, HB.out]
      exact or_bit_ne _ _
    · rw [upd_other _ _ e]
      exact h.occ j hj
  · exfalso
    obtain ⟨i, hi, ho, hp⟩ := (h.ent.plc _).1 hin
    exact hno i hi ho hp

set_option maxHeartbeats 800000 in
theorem add_hash_hit {w : World} {p g C : Nat} {F T : Nat → Int × Nat} {G P : List Int} (h : HashG w p F g C T G P) (x : Int) (hx : 0 ≤ x) (hx2 : x < 137438953472) (hin : x / 64 ∈ P) :
    Calls Try.prog 40 #[.pointer (some ⟨p, 0, none⟩), .int .i64 x] w fun e w' => Added w p G P x e w' := by
  have k49 := word_hash h.set h.tab h.pow h.hash h.free (x / 64) (by omega) (by omega)
  have hbit := wrap_bit x
  have hBl := bitOf_lt x
  obtain ⟨B, hB⟩ : ∃ B, B = bitOf x := ⟨_, rfl⟩
  rw [← hB] at hbit hBl
  have HB : Hid (B = bitOf x) := hB
  clear hB
  go_enter Try.func40, Try.ntmps40
  go_wp2_with fail
  refine k49.mono ?_
  rintro e w1 ⟨hr, hb⟩
  clear k49
  rcases hr with ⟨i, hi, ho, hp, rfl⟩ | ⟨hno, rfl⟩
  · have h1 := h.tab.ext hb
    have h2 := h.set.ext hb
    have c2 := h1.c2 hi
    have f2 := h1.fz (i * 3 + 2)
    have hlow := (h.ent.low i hi).1
    obtain ⟨bv, hbv⟩ : ∃ bv, bv = (T i).2 := ⟨_, rfl⟩
    rw [← hbv] at c2 hlow
    have HV : Hid (bv = (T i).2) := hbv
    have hand := u64_and_nat bv B hlow hBl
    have hor := u64_or_nat bv B hlow hBl
    obtain ⟨A, hA⟩ : ∃ A, A = bv &&& B := ⟨_, rfl⟩
    obtain ⟨O, hO⟩ : ∃ O, O = bv ||| B := ⟨_, rfl⟩
    rw [← hA] at hand
    rw [← hO] at hor
    have HA : Hid (A = bv &&& B) := hA
    have HO : Hid (O = bv ||| B) := hO
    clear hA hO hbv
    go_wp2_with fail
    go_ret
    have hans : A = 0 ↔ x ∉ G := by rw [HA.out, HV.out, HB.out]; exact h.ent.hit hi ho hp hx
    have hent := h.ent.old hi ho hp hx
    rw [← HV.out, ← HB.out, ← HO.out] at hent
    have hset := h1.setBits hi O
    have hpg := h.pg
    have hO0 : O ≠ 0 := by rw [HO.out, HB.out]; exact or_bit_ne _ _
    refine ⟨ret_bool (ans_bit hans), ⟨P, .inr ⟨F, g, C, _, h2.keep (heap_setCell_other _ _ _ _ (by show p ≠ g; omega)), hset, hpg, h.pow, h.half, h.most, h.least, h.hash.turn ho hO0, hent⟩, by omega⟩, (hb.mono (Nat.le_of_lt h.set.lt)).setCell (by show p ≤ g; omega) _⟩
  · exfalso
    obtain ⟨i, hi, ho, hp⟩ := (h.ent.plc _).1 hin
    exact hno i hi ho hp
end Go.Proofs.Qxb6601295a
