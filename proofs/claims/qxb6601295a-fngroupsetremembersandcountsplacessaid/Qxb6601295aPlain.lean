/-
  PLAIN FACTS (no program in sight): entries of a place and 64 bits; a hash table with linear probing.
-/
import Derived.WalkKit
namespace Go.Proofs.Qxb6601295a

/-- T with v at i. -/
def upd (T : Nat → Int × Nat) (i : Nat) (v : Int × Nat) : Nat → Int × Nat := fun j => if j = i then v else T j
theorem upd_same (T : Nat → Int × Nat) (i : Nat) (v : Int × Nat) : upd T i v i = v := by simp [upd]
theorem upd_other (T : Nat → Int × Nat) {i j : Nat} (v : Int × Nat) (h : j ≠ i) : upd T i v j = T j := by simp [upd, h]

theorem sub_len : ∀ (L M : List Int), L.Nodup → (∀ y ∈ L, y ∈ M) → L.length ≤ M.length
  | [], _, _, _ => by simp
  | a :: r, M, h1, h3 => by
    have ha := List.nodup_cons.1 h1
    have hm := h3 a (by simp)
    have h5 := sub_len r (M.erase a) ha.2 (fun y hy => (List.mem_erase_of_ne (show y ≠ a from fun e => ha.1 (by rw [← e]; exact hy))).2 (h3 y (by simp [hy])))
    rw [List.length_erase_of_mem hm] at h5
    have := List.length_pos_of_mem hm
    simp
    omega

theorem same_len {L M : List Int} (h1 : L.Nodup) (h2 : M.Nodup) (h : ∀ y, y ∈ L ↔ y ∈ M) : L.length = M.length :=
  Nat.le_antisymm (sub_len L M h1 fun y hy => (h y).1 hy) (sub_len M L h2 fun y hy => (h y).2 hy)

/-- The first N entries of E hold the groups G, in words at the places P. -/
structure Ent (N : Nat) (E : Nat → Int × Nat) (G P : List Int) : Prop where
  dist : ∀ i j, i < N → j < N → (E i).2 ≠ 0 → (E j).2 ≠ 0 → (E i).1 = (E j).1 → i = j
  grp : ∀ x, x ∈ G ↔ 0 ≤ x ∧ ∃ i, i < N ∧ (E i).1 = x / 64 ∧ (E i).2.testBit (x % 64).toNat = true
  plc : ∀ p, p ∈ P ↔ ∃ i, i < N ∧ (E i).2 ≠ 0 ∧ (E i).1 = p
  nodup : P.Nodup
  low : ∀ i, i < N → (E i).2 < 18446744073709551616 ∧ 0 ≤ (E i).1 ∧ (E i).1 < 2147483648

/-- The bit of a group in its word. -/
def bitOf (x : Int) : Nat := 2 ^ (x % 64).toNat

theorem bitOf_pos (x : Int) : bitOf x ≠ 0 := by unfold bitOf; exact Nat.pos_iff_ne_zero.1 (Nat.two_pow_pos _)
theorem bitOf_lt (x : Int) : bitOf x < 18446744073709551616 := by
  unfold bitOf
  have h : (x % 64).toNat < 64 := by omega
  exact Nat.lt_of_lt_of_le (Nat.pow_lt_pow_right (by decide) h) (Nat.le_refl _)

theorem testBit_ne {n r : Nat} (h : n.testBit r = true) : n ≠ 0 := by
  rintro rfl
  simp at h

theorem testBit_bitOf (x y : Int) : (bitOf x).testBit (y % 64).toNat = true ↔ y % 64 = x % 64 := by
  unfold bitOf
  rw [Nat.testBit_two_pow]
  simp
  omega

theorem and_bit (n : Nat) (x : Int) : n &&& bitOf x = 0 ↔ n.testBit (x % 64).toNat = false := by
  unfold bitOf
  generalize (x % 64).toNat = r
  constructor
  · intro h
    have h2 : (n &&& 2 ^ r).testBit r = false := by rw [h]; simp
    rw [Nat.testBit_and, Nat.testBit_two_pow] at h2
    simpa using h2
  · intro h
    apply Nat.eq_of_testBit_eq
    intro i
    rw [Nat.testBit_and, Nat.testBit_two_pow]
    by_cases e : r = i
    · subst e; simp [h]
    · simp [e]

theorem or_bit_ne (n : Nat) (x : Int) : n ||| bitOf x ≠ 0 := by
  intro h
  have h2 : (n ||| bitOf x).testBit (x % 64).toNat = true := by rw [Nat.testBit_or, (testBit_bitOf x x).2 rfl]; simp
  rw [h] at h2
  simp at h2

theorem or_bit_lt {n : Nat} (x : Int) (h : n < 18446744073709551616) : n ||| bitOf x < 18446744073709551616 :=
  Nat.or_lt_two_pow (n := 64) h (bitOf_lt x)

section
variable {N : Nat} {E : Nat → Int × Nat} {G P : List Int}

theorem div_mod_eq {x y : Int} (h : y / 64 = x / 64) (h2 : y % 64 = x % 64) : y = x := by omega

/-- A group whose word is there: its bit is set. -/
theorem Ent.old (h : Ent N E G P) {i : Nat} {x : Int} (hi : i < N) (ho : (E i).2 ≠ 0) (hp : (E i).1 = x / 64) (hx : 0 ≤ x) : Ent N (upd E i ((E i).1, (E i).2 ||| bitOf x)) (x :: G) P := by
  refine ⟨?_, ?_, ?_, h.nodup, ?_⟩
  · intro a b ha hb oa ob e
    by_cases ea : a = i
    · by_cases eb : b = i
      · omega
      · subst ea
        rw [upd_same, upd_other _ _ eb] at e
        rw [upd_other _ _ eb] at ob
        exact h.dist a b ha hb ho ob e
    · by_cases eb : b = i
      · subst eb
        rw [upd_same, upd_other _ _ ea] at e
        rw [upd_other _ _ ea] at oa
        exact h.dist a b ha hb oa ho e
      · rw [upd_other _ _ ea, upd_other _ _ eb] at e
        rw [upd_other _ _ ea] at oa
        rw [upd_other _ _ eb] at ob
        exact h.dist a b ha hb oa ob e
  · intro y
    rw [List.mem_cons, h.grp y]
    constructor
    · rintro (rfl | ⟨h0, a, ha, hpa, hta⟩)
      · exact ⟨hx, i, hi, by rw [upd_same]; exact hp, by rw [upd_same]; simp [Nat.testBit_or, (testBit_bitOf y y).2 rfl]⟩
      · refine ⟨h0, a, ha, ?_⟩
        by_cases ea : a = i
        · subst ea
          rw [upd_same]
          exact ⟨hpa, by simp [Nat.testBit_or, hta]⟩
        · rw [upd_other _ _ ea]
          exact ⟨hpa, hta⟩
    · rintro ⟨h0, a, ha, hpa, hta⟩
      by_cases ea : a = i
      · subst ea
        rw [upd_same] at hpa hta
        rw [Nat.testBit_or] at hta
        cases hb : (E a).2.testBit (y % 64).toNat
        · rw [hb, Bool.false_or] at hta
          left
          exact div_mod_eq (hpa.symm.trans hp) ((testBit_bitOf x y).1 hta)
        · right
          exact ⟨h0, a, ha, hpa, hb⟩
      · rw [upd_other _ _ ea] at hpa hta
        right
        exact ⟨h0, a, ha, hpa, hta⟩
  · intro p
    rw [h.plc p]
    constructor
    · rintro ⟨a, ha, oa, pa⟩
      refine ⟨a, ha, ?_⟩
      by_cases ea : a = i
      · subst ea; rw [upd_same]; exact ⟨or_bit_ne _ _, pa⟩
      · rw [upd_other _ _ ea]; exact ⟨oa, pa⟩
    · rintro ⟨a, ha, oa, pa⟩
      refine ⟨a, ha, ?_⟩
      by_cases ea : a = i
      · subst ea; rw [upd_same] at pa; exact ⟨ho, pa⟩
      · rw [upd_other _ _ ea] at oa pa; exact ⟨oa, pa⟩
  · intro a ha
    by_cases ea : a = i
    · subst ea; rw [upd_same]; exact ⟨or_bit_lt x (h.low a ha).1, (h.low a ha).2⟩
    · rw [upd_other _ _ ea]; exact h.low a ha

/-- A new word in a free entry. -/
theorem Ent.new (h : Ent N E G P) {i : Nat} {x : Int} (hi : i < N) (ho : (E i).2 = 0) (hp : x / 64 ∉ P) (hx : 0 ≤ x) (hlt : x / 64 < 2147483648) : Ent N (upd E i (x / 64, bitOf x)) (x :: G) (x / 64 :: P) := by
  have hne : ∀ a, a < N → (E a).2 ≠ 0 → (E a).1 ≠ x / 64 := fun a ha oa e => hp ((h.plc _).2 ⟨a, ha, oa, e⟩)
  refine ⟨?_, ?_, ?_, List.nodup_cons.2 ⟨hp, h.nodup⟩, ?_⟩
  · intro a b ha hb oa ob e
    by_cases ea : a = i
    · by_cases eb : b = i
      · omega
      · subst ea
        rw [upd_same, upd_other _ _ eb] at e
        rw [upd_other _ _ eb] at ob
        exact absurd e.symm (hne b hb ob)
    · by_cases eb : b = i
      · subst eb
        rw [upd_same, upd_other _ _ ea] at e
        rw [upd_other _ _ ea] at oa
        exact absurd e (hne a ha oa)
      · rw [upd_other _ _ ea, upd_other _ _ eb] at e
        rw [upd_other _ _ ea] at oa
        rw [upd_other _ _ eb] at ob
        exact h.dist a b ha hb oa ob e
  · intro y
    rw [List.mem_cons, h.grp y]
    constructor
    · rintro (rfl | ⟨h0, a, ha, hpa, hta⟩)
      · exact ⟨hx, i, hi, by rw [upd_same], by rw [upd_same]; exact (testBit_bitOf y y).2 rfl⟩
      · have ea : a ≠ i := fun e => testBit_ne hta (e ▸ ho)
        exact ⟨h0, a, ha, by rw [upd_other _ _ ea]; exact hpa, by rw [upd_other _ _ ea]; exact hta⟩
    · rintro ⟨h0, a, ha, hpa, hta⟩
      by_cases ea : a = i
      · subst ea
        rw [upd_same] at hpa hta
        left
        exact div_mod_eq hpa.symm ((testBit_bitOf x y).1 hta)
      · rw [upd_other _ _ ea] at hpa hta
        right
        exact ⟨h0, a, ha, hpa, hta⟩
  · intro p
    rw [List.mem_cons, h.plc p]
    constructor
    · rintro (rfl | ⟨a, ha, oa, pa⟩)
      · exact ⟨i, hi, by rw [upd_same]; exact bitOf_pos x, by rw [upd_same]⟩
      · have ea : a ≠ i := fun e => oa (e ▸ ho)
        exact ⟨a, ha, by rw [upd_other _ _ ea]; exact oa, by rw [upd_other _ _ ea]; exact pa⟩
    · rintro ⟨a, ha, oa, pa⟩
      by_cases ea : a = i
      · subst ea; rw [upd_same] at pa; left; exact pa.symm
      · rw [upd_other _ _ ea] at oa pa; right; exact ⟨a, ha, oa, pa⟩
  · intro a ha
    by_cases ea : a = i
    · subst ea; rw [upd_same]; exact ⟨bitOf_lt x, by show 0 ≤ x / 64; omega, hlt⟩
    · rw [upd_other _ _ ea]; exact h.low a ha

theorem Ent.hit (h : Ent N E G P) {i : Nat} {x : Int} (hi : i < N) (ho : (E i).2 ≠ 0) (hp : (E i).1 = x / 64) (hx : 0 ≤ x) : (E i).2 &&& bitOf x = 0 ↔ x ∉ G := by
  rw [and_bit, h.grp x]
  constructor
  · rintro hb ⟨_, a, ha, pa, ta⟩
    have e := h.dist a i ha hi (testBit_ne ta) ho (pa.trans hp.symm)
    subst e
    rw [hb] at ta
    cases ta
  · intro hn
    cases hb : (E i).2.testBit (x % 64).toNat
    · rfl
    · exact absurd ⟨hx, i, hi, hp, hb⟩ hn

theorem Ent.miss (h : Ent N E G P) {x : Int} (hp : x / 64 ∉ P) : x ∉ G := by
  rw [h.grp x]
  rintro ⟨_, a, ha, pa, ta⟩
  exact hp ((h.plc _).2 ⟨a, ha, testBit_ne ta, pa⟩)

theorem Ent.congr (h : Ent N E G P) {G' : List Int} (hg : ∀ x, x ∈ G' ↔ x ∈ G) : Ent N E G' P := ⟨h.dist, fun x => (hg x).trans (h.grp x), h.plc, h.nodup, h.low⟩

/-- The same words in another table. -/
theorem Ent.moved (h : Ent N E G P) {M : Nat} {T : Nat → Int × Nat} (hs : ∀ v : Int × Nat, v.2 ≠ 0 → ((∃ j, j < M ∧ T j = v) ↔ ∃ i, i < N ∧ E i = v))
    (hd : ∀ i j, i < M → j < M → (T i).2 ≠ 0 → (T j).2 ≠ 0 → (T i).1 = (T j).1 → i = j) (hl : ∀ i, i < M → (T i).2 < 18446744073709551616 ∧ 0 ≤ (T i).1 ∧ (T i).1 < 2147483648) : Ent M T G P := by
  refine ⟨hd, fun x => ?_, fun p => ?_, h.nodup, hl⟩
  · rw [h.grp x]
    constructor
    · rintro ⟨h0, a, ha, pa, ta⟩
      obtain ⟨j, hj, ej⟩ := (hs (E a) (testBit_ne ta)).2 ⟨a, ha, rfl⟩
      exact ⟨h0, j, hj, by rw [ej]; exact pa, by rw [ej]; exact ta⟩
    · rintro ⟨h0, a, ha, pa, ta⟩
      obtain ⟨j, hj, ej⟩ := (hs (T a) (testBit_ne ta)).1 ⟨a, ha, rfl⟩
      exact ⟨h0, j, hj, by rw [ej]; exact pa, by rw [ej]; exact ta⟩
  · rw [h.plc p]
    constructor
    · rintro ⟨a, ha, oa, pa⟩
      obtain ⟨j, hj, ej⟩ := (hs (E a) oa).2 ⟨a, ha, rfl⟩
      exact ⟨j, hj, by rw [ej]; exact oa, by rw [ej]; exact pa⟩
    · rintro ⟨a, ha, oa, pa⟩
      obtain ⟨j, hj, ej⟩ := (hs (T a) oa).1 ⟨a, ha, rfl⟩
      exact ⟨j, hj, by rw [ej]; exact oa, by rw [ej]; exact pa⟩

end

/-! ### linear probing -/
/-- Distinct places, and each word reached from its slot over occupied ones. -/
structure Hash (C : Nat) (h : Int → Nat) (T : Nat → Int × Nat) : Prop where
  dist : ∀ i j, i < C → j < C → (T i).2 ≠ 0 → (T j).2 ≠ 0 → (T i).1 = (T j).1 → i = j
  path : ∀ j, j < C → (T j).2 ≠ 0 → ∃ d, d < C ∧ (h (T j).1 + d) % C = j ∧ ∀ e, e < d → (T ((h (T j).1 + e) % C)).2 ≠ 0

section
variable {C : Nat} {h : Int → Nat} {T : Nat → Int × Nat}

theorem hash_empty (C : Nat) (h : Int → Nat) : Hash C h (fun _ => (0, 0)) := ⟨fun _ _ _ _ o => absurd rfl o, fun _ _ o => absurd rfl o⟩

/-- Probing has come to a free slot: the place is nowhere. -/
theorem Hash.stop (hh : Hash C h T) {p : Int} {d : Nat} (hf : (T ((h p + d) % C)).2 = 0) (hb : ∀ e, e < d → (T ((h p + e) % C)).1 ≠ p) : ∀ j, j < C → (T j).2 ≠ 0 → (T j).1 ≠ p := by
  intro j hj oj e
  obtain ⟨d', hd, hp, ha⟩ := hh.path j hj oj
  rw [e] at hp ha
  rcases Nat.lt_trichotomy d' d with hlt | heq | hgt
  · exact hb d' hlt (by rw [hp]; exact e)
  · subst heq
    rw [hp] at hf
    exact oj hf
  · exact ha d hgt hf

/-- While only occupied slots have been met, not all have been met. -/
theorem probe_lt {s d : Nat} (hf : ∃ f, f < C ∧ (T f).2 = 0) (hb : ∀ e, e < d → (T ((s + e) % C)).2 ≠ 0) : d < C := by
  obtain ⟨f, hfc, hf0⟩ := hf
  rcases Nat.lt_or_ge d C with h1 | h1
  · exact h1
  · exfalso
    have hs : s % C < C := Nat.mod_lt _ (by omega)
    have he : (s + (f + C - s % C) % C) % C = f := by
      rw [Nat.add_mod_mod, ← Nat.mod_add_mod]
      rw [show s % C + (f + C - s % C) = f + C by omega, Nat.add_mod_right]
      exact Nat.mod_eq_of_lt hfc
    exact hb ((f + C - s % C) % C) (Nat.lt_of_lt_of_le (Nat.mod_lt _ (by omega)) h1) (by rw [he]; exact hf0)

/-- A word put in the first free slot. -/
theorem Hash.put (hh : Hash C h T) {p : Int} {b d : Nat} (hd : d < C) (hf : (T ((h p + d) % C)).2 = 0) (ho : ∀ e, e < d → (T ((h p + e) % C)).2 ≠ 0) (hn : ∀ j, j < C → (T j).2 ≠ 0 → (T j).1 ≠ p) : Hash C h (upd T ((h p + d) % C) (p, b)) := by
  have keep : ∀ k, (T k).2 ≠ 0 → (upd T ((h p + d) % C) (p, b) k).2 ≠ 0 := by
    intro k hk
    by_cases e : k = (h p + d) % C
    · subst e; exact absurd hf hk
    · rw [upd_other _ _ e]; exact hk
  refine ⟨?_, ?_⟩
  · intro i j hi hj oi oj e
    by_cases ei : i = (h p + d) % C
    · by_cases ej : j = (h p + d) % C
      · omega
      · subst ei
        rw [upd_same, upd_other _ _ ej] at e
        rw [upd_other _ _ ej] at oj
        exact absurd e.symm (hn j hj oj)
    · by_cases ej : j = (h p + d) % C
      · subst ej
        rw [upd_same, upd_other _ _ ei] at e
        rw [upd_other _ _ ei] at oi
        exact absurd e (hn i hi oi)
      · rw [upd_other _ _ ei, upd_other _ _ ej] at e
        rw [upd_other _ _ ei] at oi
        rw [upd_other _ _ ej] at oj
        exact hh.dist i j hi hj oi oj e
  · intro j hj oj
    by_cases ej : j = (h p + d) % C
    · refine ⟨d, hd, ?_⟩
      rw [ej, upd_same]
      exact ⟨rfl, fun e he => keep _ (ho e he)⟩
    · rw [upd_other _ _ ej] at oj ⊢
      obtain ⟨d', hd', hp', ha'⟩ := hh.path j hj oj
      exact ⟨d', hd', hp', fun e he => keep _ (ha' e he)⟩

/-- A word whose bits grow in place. -/
theorem Hash.turn (hh : Hash C h T) {i b : Nat} (hi : (T i).2 ≠ 0) (hb : b ≠ 0) : Hash C h (upd T i ((T i).1, b)) := by
  have p1 : ∀ k, (upd T i ((T i).1, b) k).1 = (T k).1 := by
    intro k
    by_cases e : k = i
    · subst e; rw [upd_same]
    · rw [upd_other _ _ e]
  have o1 : ∀ k, (upd T i ((T i).1, b) k).2 ≠ 0 ↔ (T k).2 ≠ 0 := by
    intro k
    by_cases e : k = i
    · subst e; rw [upd_same]; exact ⟨fun _ => hi, fun _ => hb⟩
    · rw [upd_other _ _ e]
  refine ⟨fun a c ha hc oa oc e => hh.dist a c ha hc ((o1 a).1 oa) ((o1 c).1 oc) (by rwa [p1, p1] at e), fun j hj oj => ?_⟩
  obtain ⟨d', hd', hp', ha'⟩ := hh.path j hj ((o1 j).1 oj)
  rw [p1]
  exact ⟨d', hd', hp', fun e he => (o1 _).2 (ha' e he)⟩

/-- There is a free slot where there are fewer words than slots. -/
theorem free_slot {L : List Int} (hd : ∀ i j, i < C → j < C → (T i).2 ≠ 0 → (T j).2 ≠ 0 → (T i).1 = (T j).1 → i = j) (hl : ∀ i, i < C → (T i).2 ≠ 0 → (T i).1 ∈ L) (hc : L.length < C) : ∃ f, f < C ∧ (T f).2 = 0 := by
  apply Classical.byContradiction
  intro hn
  have hall : ∀ i, i < C → (T i).2 ≠ 0 := fun i hi e => hn ⟨i, hi, e⟩
  have h1 : ((List.range C).map fun i => (T i).1).Nodup := by
    rw [List.nodup_iff_pairwise_ne, List.pairwise_iff_getElem]
    intro a b ha hb hab e
    simp at ha hb e
    have := hd a b ha hb (hall a ha) (hall b hb) e
    omega
  have h2 := sub_len _ L h1 (fun y hy => by
    obtain ⟨i, hi, rfl⟩ := List.mem_map.1 hy
    simp at hi
    exact hl i hi (hall i hi))
  simp at h2
  omega
end
end Go.Proofs.Qxb6601295a
