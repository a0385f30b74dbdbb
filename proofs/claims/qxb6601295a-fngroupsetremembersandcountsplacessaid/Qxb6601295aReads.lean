/-
  THE LAWS' OWN HELPERS: length bounds, gsGroupsFit, gsClone, gsContains, gsPlace, gsDistinctPlaces; add FROM OUTSIDE.
-/
import Derived.Test.Qxb6601295aAdd3
namespace Go.Proofs.Qxb6601295a
open Go.RowKit

theorem add_any {w : World} {p : Nat} {G P : List Int} (h : GSet w p G P) (hP : P.length ≤ 8192) (x : Int) (hx : 0 ≤ x) (hx2 : x < 137438953472) :
    Calls Try.prog 40 #[.pointer (some ⟨p, 0, none⟩), .int .i64 x] w fun e w' => Added w p G P x e w' := by
  by_cases hin : x / 64 ∈ P
  · rcases h with ⟨F, h⟩ | ⟨F, g, C, T, h⟩
    · exact add_few_hit h x hx hx2 hin
    · exact add_hash_hit h x hx hx2 hin
  · rcases h with ⟨F, h⟩ | ⟨F, g, C, T, h⟩
    · rcases Nat.lt_or_ge P.length 8 with h1 | h1
      · exact add_few_room h x hx hx2 hin h1
      · exact add_few_full h x hx hx2 hin h1
    · rcases Nat.lt_or_ge C (2 * (P.length + 1)) with h1 | h1
      · exact add_hash_full h x hx hx2 hin hP h1
      · exact add_hash_room h x hx hx2 hin hP h1

/-- What the law sees of an add. -/
structure AddedZ (w : World) (p : Nat) (G P : List Int) (x : Int) (w' : World) : Prop where
  set : ∃ Q, GSet w' p (x :: G) Q ∧ Q.length ≤ P.length + 1
  below : Below p w w'

set_option maxHeartbeats 400000 in
theorem addZ {w : World} {p : Nat} {G P : List Int} (h : GSet w p G P) (hP : P.length ≤ 8192) (x : Int) (hx : 0 ≤ x) (hx2 : x < 137438953472) :
    Calls Try.prog 29 #[.pointer (some ⟨p, 0, none⟩), .int .i64 x] w fun e w' => e = .returned (.bool (!inI G x)) ∧ AddedZ w p G P x w' := by
  go_enter Try.func29, Try.ntmps29
  go_wp2_with fail
  refine (add_any h hP x hx hx2).mono ?_
  rintro e w' ⟨rfl, hset, hb⟩
  go_wp2_with fail
  go_ret
  exact ⟨rfl, hset, hb⟩

theorem GSet.words {w : World} {p : Nat} {G P : List Int} (h : GSet w p G P) : w.cell? ⟨p, 24, none⟩ = some (.int .i64 P.length) := by
  rcases h with ⟨F, h⟩ | ⟨F, g, C, T, h⟩
  · exact h.set.words
  · exact h.set.words

set_option maxHeartbeats 400000 in
theorem wordsZ {w : World} {p : Nat} {G P : List Int} (h : GSet w p G P) : Calls Try.prog 32 #[.pointer (some ⟨p, 0, none⟩)] w fun e w' => e = .returned (.int .i64 P.length) ∧ w = w' := by
  have c24 := h.words
  go_enter Try.func32, Try.ntmps32
  go_wp2
  go_ret
  exact ⟨rfl, rfl⟩

/-! ### slices of integers -/
/-- The slice value '.slice a len _' reads as the numbers zs in the world w. -/
def Ints (w : World) (a : Option Addr) (len : Nat) (zs : List Int) : Prop :=
  len = zs.length ∧ (zs = [] ∨ ∃ b off, a = some ⟨b, off, none⟩ ∧ ∀ i, i < zs.length → w.cell? ⟨b, off + i, none⟩ = some (.int .i64 (zs.getD i 0)))

theorem Ints.lt {w : World} {a : Option Addr} {len : Nat} {zs : List Int} (h : Ints w a len zs) : ∀ x, a = some x → zs ≠ [] → x.block < w.heap.size := by
  intro x hx h0
  rcases h.2 with h1 | ⟨b, off, rfl, hc⟩
  · exact absurd h1 h0
  · cases hx
    exact World.block_lt_of_cell? w _ (hc 0 (List.length_pos_iff.2 h0))

theorem Ints.keep {w w' : World} {a : Option Addr} {len : Nat} {zs : List Int} (h : Ints w a len zs) (hk : ∀ x, a = some x → zs ≠ [] → w'.heap[x.block]? = w.heap[x.block]?) : Ints w' a len zs := by
  refine ⟨h.1, ?_⟩
  rcases h.2 with h0 | ⟨b, off, rfl, hc⟩
  · exact .inl h0
  · by_cases h0 : zs = []
    · exact .inl h0
    · exact .inr ⟨b, off, rfl, fun i hi => (World.cell?_of_block (a := ⟨b, off + i, none⟩) (hk ⟨b, off, none⟩ rfl h0)).trans (hc i hi)⟩

theorem Ints.ext {w w' : World} {a : Option Addr} {len : Nat} {zs : List Int} (h : Ints w a len zs) (hb : Below w.heap.size w w') : Ints w' a len zs :=
  h.keep fun x hx h0 => hb.block _ (h.lt x hx h0)

theorem Ints.at {w : World} {a : Option Addr} {zs : List Int} (hs : Ints w a zs.length zs) : ∀ k, k < zs.length → ∃ b off, a = some ⟨b, off, none⟩ ∧ w.cell? ⟨b, off + k, none⟩ = some (.int .i64 (zs.getD k 0)) := by
  intro k hk
  rcases hs.2 with rfl | ⟨b, off, rfl, hc⟩
  · simp at hk
  · exact ⟨b, off, rfl, hc k hk⟩

theorem take_succ_getD (zs : List Int) (k : Nat) (h : k < zs.length) : zs.take (k + 1) = zs.take k ++ [zs.getD k 0] := by
  rw [List.take_succ_eq_append_getElem h]
  simp [List.getD, h]

theorem getD_mem (zs : List Int) (k : Nat) (h : k < zs.length) : zs.getD k 0 ∈ zs := by
  simp [List.getD, h]

/-- It returns a bool, whichever. -/
def RetBool (e : Ending) : Prop := ∃ b : Bool, e = .returned (.bool b)
/-- It returns a bool that, if it is true, says p. -/
def RetIf (p : Prop) (e : Ending) : Prop := ∃ b : Bool, e = .returned (.bool b) ∧ (b = true → p)

set_option maxHeartbeats 400000 in
theorem bytes26_any (a : Option Addr) (len cap : Nat) (w : World) : Calls Try.prog 26 #[.slice a len cap] w fun e w' => RetBool e ∧ w = w' := by
  go_enter Try.func26, Try.ntmps26
  go_wp2
  all_goals
    go_ret
    exact ⟨⟨_, rfl⟩, rfl⟩

set_option maxHeartbeats 400000 in
theorem bytes30_any (a : Option Addr) (len cap : Nat) (m : Int) (w : World) : Calls Try.prog 30 #[.slice a len cap, .int .i64 m] w fun e w' => RetBool e ∧ w = w' := by
  go_enter Try.func30, Try.ntmps30
  go_wp2
  all_goals
    go_ret
    exact ⟨⟨_, rfl⟩, rfl⟩

/-- Group numbers whose place fits an int32. -/
def Fits (zs : List Int) : Prop := ∀ z ∈ zs, 0 ≤ z ∧ z < 137438953472

theorem fits_step {zs : List Int} {k : Nat} {z : Int} (hk : k < zs.length) (hz : z = zs.getD k 0) (h : Fits (zs.take k)) (h1 : 0 ≤ z) (h2 : z < 137438953472) : Fits (zs.take (k + 1)) := by
  rw [take_succ_getD zs k hk, ← hz]
  intro y hy
  rcases List.mem_append.1 hy with h3 | h3
  · exact h y h3
  · simp at h3; subst h3; exact ⟨h1, h2⟩

set_option maxHeartbeats 800000 in
theorem fit_any (a : Option Addr) (cap : Nat) (zs : List Int) (w : World) (hl : zs.length ≤ 4096) (hs : Ints w a zs.length zs) :
    Calls Try.prog 27 #[.slice a zs.length cap] w fun e w' => RetIf (Fits zs) e ∧ w = w' := by
  go_enter Try.func27, Try.ntmps27
  go_wp2
  go_loop [3] (fun i => ∃ k : Nat, k ≤ zs.length ∧ i = .int .i64 k ∧ Fits (zs.take k)) (fun i => zs.length - (intOf i).toNat)
  case atStart => exact ⟨0, Nat.zero_le _, rfl, fun z hz => by simp at hz⟩
  case round =>
    obtain ⟨k, hk, rfl, hn⟩ := hrel
    have HN : Hid (Fits (zs.take k)) := hn
    clear hn
    by_cases hlt : k < zs.length
    · obtain ⟨b, off, rfl, hcell⟩ := hs.at k hlt
      obtain ⟨z, hze⟩ : ∃ z, z = zs.getD k 0 := ⟨_, rfl⟩
      rw [← hze] at hcell
      have HZ : Hid (z = zs.getD k 0) := hze
      clear hze hs
      by_cases h1 : z < 0
      · go_wp2
        go_ret
        exact ⟨⟨false, rfl, by simp⟩, rfl⟩
      · by_cases h2 : 137438953472 ≤ z
        · go_wp2
          go_ret
          exact ⟨⟨false, rfl, by simp⟩, rfl⟩
        · go_wp2
          go_round
          case rel => exact ⟨k + 1, by omega, by go_num, fits_step hlt HZ.out HN.out (by omega) (by omega)⟩
          case measure => simp [intOf]; omega
    · clear hs
      go_wp2
      go_ret
      exact ⟨⟨true, rfl, fun _ => by have := HN.out; rwa [List.take_of_length_le (by omega)] at this⟩, rfl⟩
end Go.Proofs.Qxb6601295a
