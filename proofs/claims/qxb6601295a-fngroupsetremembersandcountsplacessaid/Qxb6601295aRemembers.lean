/-
  THE LAW: THE SET REMEMBERS, AND COUNTS ITS PLACES: THE WALK.
-/
import Derived.Test.Qxb6601295aFirst
namespace Go.Proofs.Qxb6601295a
open Go.RowKit

theorem some_bit {n : Nat} (h0 : n ≠ 0) (h1 : n < 18446744073709551616) : ∃ b, b < 64 ∧ n.testBit b = true := by
  obtain ⟨b, hb⟩ := Nat.exists_testBit_of_ne_zero h0
  refine ⟨b, ?_, hb⟩
  rcases Nat.lt_or_ge b 64 with h | h
  · exact h
  · have : n < 2 ^ b := Nat.lt_of_lt_of_le h1 (Nat.pow_le_pow_right (n := 2) (by decide) h)
    rw [Nat.testBit_lt_two_pow this] at hb
    cases hb

theorem Ent.placesOf {N : Nat} {E : Nat → Int × Nat} {G P : List Int} (h : Ent N E G P) (q : Int) : q ∈ P ↔ ∃ x, x ∈ G ∧ x / 64 = q := by
  rw [h.plc q]
  constructor
  · rintro ⟨i, hi, ho, hp⟩
    have hl := h.low i hi
    obtain ⟨b, hb, ht⟩ := some_bit ho hl.1
    refine ⟨64 * q + b, ?_, by omega⟩
    rw [h.grp]
    refine ⟨by omega, i, hi, by omega, ?_⟩
    rw [show ((64 * q + (b : Int)) % 64).toNat = b by omega]
    exact ht
  · rintro ⟨x, hx, rfl⟩
    obtain ⟨_, i, hi, hp, ht⟩ := (h.grp x).1 hx
    exact ⟨i, hi, testBit_ne ht, hp⟩

theorem GSet.placesOf {w : World} {p : Nat} {G P : List Int} (h : GSet w p G P) : P.Nodup ∧ ∀ q, q ∈ P ↔ ∃ x, x ∈ G ∧ x / 64 = q := by
  rcases h with ⟨F, h⟩ | ⟨F, g, C, T, h⟩
  · exact ⟨h.ent.nodup, h.ent.placesOf⟩
  · exact ⟨h.ent.nodup, h.ent.placesOf⟩

theorem GSet.few {w : World} {p : Nat} {G P L : List Int} (h : GSet w p G P) (hs : ∀ x ∈ G, x ∈ L) : P.length ≤ L.length := by
  obtain ⟨h1, h2⟩ := h.placesOf
  have := sub_len P (L.map (· / 64)) h1 (fun q hq => by
    obtain ⟨x, hx, e⟩ := (h2 q).1 hq
    exact List.mem_map.2 ⟨x, hs x hx, e⟩)
  simpa using this

theorem GSet.count {w : World} {p : Nat} {P zs : List Int} {m : Int} (h : GSet w p (zs ++ [m]) P) : P.length = (distinct (places zs m)).length := by
  obtain ⟨h1, h2⟩ := h.placesOf
  refine same_len h1 (nodup_distinct _) fun q => ?_
  rw [h2 q, mem_distinct]
  unfold places
  rw [List.mem_map]

theorem beq_not (b : Bool) : ((!b) == b) = false := by cases b <;> rfl

set_option maxHeartbeats 1600000 in
theorem remembers_far (a : Option Addr) (cap : Nat) (zs : List Int) (m : Int) (w : World) (hs : Ints w a zs.length zs) (hm : zs.length ≤ maxLen) (hf : 4096 < zs.length ∨ m < 0 ∨ 137438953472 ≤ m) :
    Calls Try.prog 9 #[.slice a zs.length cap, .int .i64 m] w fun e w' => e = .returned (.bool true) ∧ Below w.heap.size w w' := by
  unfold maxLen at hm
  by_cases hl : 4096 < zs.length
  · clear hf
    go_enter Try.func9, Try.ntmps9
    go_wp2_with fail
    refine (bytes30_any _ _ _ _ _).mono ?_
    rintro e w' ⟨⟨b, rfl⟩, rfl⟩
    cases b <;> (go_wp2_with fail; go_ret; exact ⟨rfl, Below.refl _ _⟩)
  · have k27 := fit_any a cap zs w (by omega) hs
    clear hs
    by_cases h0 : m < 0
    · go_enter Try.func9, Try.ntmps9
      go_wp2_with fail
      refine (bytes30_any _ _ _ _ _).mono ?_
      rintro e w' ⟨⟨b, rfl⟩, rfl⟩
      cases b
      · go_wp2_with fail; go_ret; exact ⟨rfl, Below.refl _ _⟩
      go_wp2_with fail
      refine k27.mono ?_
      rintro e w' ⟨⟨b, rfl, hfit⟩, rfl⟩
      clear hfit
      cases b <;> (go_wp2_with fail; go_ret; exact ⟨rfl, Below.refl _ _⟩)
    · have h1 : 137438953472 ≤ m := by omega
      clear hf
      go_enter Try.func9, Try.ntmps9
      go_wp2_with fail
      refine (bytes30_any _ _ _ _ _).mono ?_
      rintro e w' ⟨⟨b, rfl⟩, rfl⟩
      cases b
      · go_wp2_with fail; go_ret; exact ⟨rfl, Below.refl _ _⟩
      go_wp2_with fail
      refine k27.mono ?_
      rintro e w' ⟨⟨b, rfl, hfit⟩, rfl⟩
      clear hfit
      cases b <;> (go_wp2_with fail; go_ret; exact ⟨rfl, Below.refl _ _⟩)

theorem mem_again {zs : List Int} {m z x : Int} (h : z ∈ zs ++ [m]) : x ∈ zs ++ [m] ↔ x ∈ z :: (zs ++ [m]) := by
  rw [List.mem_cons]
  constructor
  · exact .inr
  · rintro (rfl | h1)
    · exact h
    · exact h1

set_option maxHeartbeats 1600000 in
theorem remembers_near (a : Option Addr) (cap : Nat) (zs : List Int) (m : Int) (w : World) (hs : Ints w a zs.length zs) (hn : a = none → zs = []) (hl2 : zs.length ≤ 4096) (hm0 : 0 ≤ m) (hm1 : m < 137438953472) :
    Calls Try.prog 9 #[.slice a zs.length cap, .int .i64 m] w fun e w' => e = .returned (.bool true) ∧ Below w.heap.size w w' := by
  have k27 := fit_any a cap zs w hl2 hs
  have k28 := clone_any a cap zs w hl2 hs hn
  clear hs hn
  go_enter Try.func9, Try.ntmps9
  go_wp2_with fail
  refine (bytes30_any _ _ _ _ _).mono ?_
  rintro e w' ⟨⟨b, rfl⟩, rfl⟩
  cases b
  · go_wp2_with fail; go_ret; exact ⟨rfl, Below.refl _ _⟩
  go_wp2_with fail
  refine k27.mono ?_
  rintro e w' ⟨⟨b, rfl, hfit⟩, rfl⟩
  clear k27
  cases b
  · go_wp2_with fail; go_ret; exact ⟨rfl, Below.refl _ _⟩
  have hF := hfit rfl
  clear hfit
  go_wp2_with fail
  refine k28.mono ?_
  rintro e w2 ⟨a2, c2, rfl, hs2, hb2⟩
  clear k28
  have hst := gset_start w2
  unfold zeroSet at hst
  go_wp2_with fail
  go_loopw [6] (fun i wr => ∃ k : Nat, k ≤ zs.length ∧ i = .int .i64 k ∧ (∃ P, GSet wr w2.heap.size (zs.take k) P) ∧ Below w2.heap.size w2 wr) (fun i _ => zs.length - (intOf i).toNat)
  case atStart => exact ⟨0, Nat.zero_le _, rfl, ⟨[], hst⟩, (Below.refl _ _).alloc (Nat.le_refl _) _⟩
  case round =>
    clear hst
    obtain ⟨k, hk, rfl, ⟨P, hg⟩, hbr⟩ := hrel
    have hPl := hg.few (L := zs) (fun x hx => List.mem_of_mem_take hx)
    by_cases hlt : k < zs.length
    · obtain ⟨b, off, rfl, hcell⟩ := (hs2.ext hbr).at k hlt
      have hz := hF _ (getD_mem zs k hlt)
      have hmem := mem_snoc_cons hlt
      obtain ⟨z, hze⟩ : ∃ z, z = zs.getD k 0 := ⟨_, rfl⟩
      rw [← hze] at hcell hz
      simp only [← hze] at hmem
      have HM : Hid (∀ x, x ∈ zs.take (k + 1) ↔ x ∈ z :: zs.take k) := hmem
      clear hze hmem
      have k29 := addZ hg (by omega) z hz.1 hz.2
      clear hg hF
      go_wp2_with fail
      refine k29.mono ?_
      rintro e w3 ⟨rfl, ⟨P3, hg3, hP3⟩, hb3⟩
      have hg3' := hg3.congr HM.out
      have hbr3 := hbr.trans hb3
      clear k29 hg3 hb3 hbr hcell
      go_wp2_with fail
      go_roundw
      case rel => exact ⟨k + 1, by omega, by go_num, ⟨P3, hg3'⟩, hbr3⟩
      case measure => simp [intOf]; omega
    · rw [List.take_of_length_le (by omega)] at hg
      have k29 := addZ hg (by omega) m hm0 hm1
      go_wp2_with fail
      refine k29.mono ?_
      rintro e w3 ⟨rfl, ⟨P3, hg3, -⟩, hb3⟩
      have hbr3 := hbr.trans hb3
      have hs3 := hs2.ext hbr3
      have hg3' : GSet w3 w2.heap.size (zs ++ [m]) P3 := hg3.congr (by intro x; simp [or_comm])
      clear k29 hg3 hb3 hbr hg hPl
      go_wp2_with fail
      refine (contains_any a2 c2 zs m w3 hl2 hs3).mono ?_
      rintro e w' ⟨rfl, rfl⟩
      have hbn := beq_not (inI zs m)
      go_wp2_with fail
      go_loopw [7] (fun i wx => ∃ k : Nat, k ≤ zs.length ∧ i = .int .i64 k ∧ (∃ P, GSet wx w2.heap.size (zs ++ [m]) P) ∧ Below w2.heap.size w2 wx) (fun i _ => zs.length - (intOf i).toNat)
      case atStart => exact ⟨0, Nat.zero_le _, rfl, ⟨P3, hg3'⟩, hbr3⟩
      case round =>
        clear hg3' hbr3 hs3 hbn hlt hk
        obtain ⟨k, hk, rfl, ⟨P, hg⟩, hbr⟩ := hrel
        have hPl := hg.few (L := zs ++ [m]) (fun _ h => h)
        rw [List.length_append, List.length_singleton] at hPl
        by_cases hlt : k < zs.length
        · obtain ⟨b, off, rfl, hcell⟩ := (hs2.ext hbr).at k hlt
          have hz := hF _ (getD_mem zs k hlt)
          have hmem := getD_mem zs k hlt
          obtain ⟨z, hze⟩ : ∃ z, z = zs.getD k 0 := ⟨_, rfl⟩
          rw [← hze] at hcell hz hmem
          clear hze
          have k29 := addZ hg (by omega) z hz.1 hz.2
          rw [show (!inI (zs ++ [m]) z) = false by rw [inI_true.2 (List.mem_append_left _ hmem)]; rfl] at k29
          have HM : Hid (z ∈ zs) := hmem
          clear hg hF hmem
          go_wp2_with fail
          refine k29.mono ?_
          rintro e w3 ⟨rfl, ⟨P3, hg3, hP3⟩, hb3⟩
          have hg3' : GSet w3 w2.heap.size (zs ++ [m]) P3 := hg3.congr (fun x => mem_again (List.mem_append_left _ HM.out))
          have hbr3 := hbr.trans hb3
          clear k29 hg3 hb3 hbr hcell
          go_wp2_with fail
          go_roundw
          case rel => exact ⟨k + 1, by omega, by go_num, ⟨P3, hg3'⟩, hbr3⟩
          case measure => simp [intOf]; omega
        · have k29 := addZ hg (by omega) m hm0 hm1
          rw [show (!inI (zs ++ [m]) m) = false by rw [inI_true.2 (by simp)]; rfl] at k29
          go_wp2_with fail
          refine k29.mono ?_
          rintro e w3 ⟨rfl, ⟨P3, hg3, hP3⟩, hb3⟩
          have hg3' : GSet w3 w2.heap.size (zs ++ [m]) P3 := hg3.congr (fun x => mem_again (by simp))
          have hbr3 := hbr.trans hb3
          have hs3 := hs2.ext hbr3
          have k32 := wordsZ hg3'
          rw [hg3'.count] at k32
          clear k29 hg3 hb3 hbr hP3 hPl
          go_wp2_with fail
          refine k32.mono ?_
          rintro e w' ⟨rfl, rfl⟩
          clear k32
          go_wp2_with fail
          refine (distinct_any a2 c2 zs m w3 hl2 hs3 hF hm0 hm1).mono ?_
          rintro e w' ⟨rfl, rfl⟩
          go_wp2_with fail
          go_ret
          exact ⟨ret_bool (by simp), below_step hb2 hbr3⟩
end Go.Proofs.Qxb6601295a
