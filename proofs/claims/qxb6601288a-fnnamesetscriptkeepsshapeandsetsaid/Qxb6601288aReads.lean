/-
  THE FUNCTIONS THAT ONLY READ: hasString, fitStrings, the three length bounds, nameSetBytesFit, allDistinct.
-/
import Derived.Test.Qxb6601288aRows
import Derived.Test.Qxb6601288aPlain
import Derived.WalkKit
import Derived.WalkSpells
import Derived.WalkLawsBesides
namespace Go.Proofs.Qxb6601288a
open Go.RowKit

theorem ret_bool {a b : Bool} (h : a = b) : Ending.returned (.bool a) = .returned (.bool b) := by rw [h]

theorem has_step {ss : List ByteArray} {x s : ByteArray} {k : Nat} (hk : k < ss.length) (hs : s = ss.getD k ByteArray.empty) (h0 : x ∉ ss.take k) (ht : (s.toList == x.toList) = false) : x ∉ ss.take (k + 1) := by
  rw [take_succ_getD ss k hk, ← hs]
  have := ne_of_beq ht
  simp [h0, this.symm]

theorem has_hit {ss : List ByteArray} {x s : ByteArray} {k : Nat} (hk : k < ss.length) (hs : s = ss.getD k ByteArray.empty) (ht : (s.toList == x.toList) = true) : true = inB ss x := by
  have := eq_of_beq ht
  subst this
  rw [hs]
  exact (inB_true.2 (getD_mem ss k hk)).symm

theorem has_miss {ss : List ByteArray} {x : ByteArray} {k : Nat} (hk : ¬ k < ss.length) (h0 : x ∉ ss.take k) : false = inB ss x := by
  rw [List.take_of_length_le (by omega)] at h0
  exact (inB_false.2 h0).symm

set_option maxHeartbeats 400000 in
theorem has_any (a : Option Addr) (len cap : Nat) (ss : List ByteArray) (x : ByteArray) (w : World) (hm : len ≤ maxLen) (hs : Strs w a len ss) :
    Calls Try.prog 13 #[.slice a len cap, .string x] w fun e w' => e = .returned (.bool (inB ss x)) ∧ w = w' := by
  unfold maxLen at hm
  obtain ⟨rfl, hs⟩ := hs
  have hcc : ∀ k, k < ss.length → ∃ b off, a = some ⟨b, off, none⟩ ∧ w.cell? ⟨b, off + k, none⟩ = some (.string (ss.getD k ByteArray.empty)) := by
    intro k hk
    rcases hs with rfl | ⟨b, off, rfl, hc⟩
    · simp at hk
    · exact ⟨b, off, rfl, hc k hk⟩
  clear hs
  go_enter Try.func13, Try.ntmps13
  go_wp2
  go_loop [5] (fun i => ∃ k : Nat, k ≤ ss.length ∧ i = .int .i64 k ∧ x ∉ ss.take k) (fun i => ss.length - (intOf i).toNat)
  case atStart => exact ⟨0, Nat.zero_le _, rfl, by simp⟩
  case round =>
    obtain ⟨k, hk, rfl, hn⟩ := hrel
    have HN : Hid (x ∉ ss.take k) := hn
    clear hn
    by_cases hlt : k < ss.length
    · obtain ⟨b, off, rfl, hcell⟩ := hcc k hlt
      clear hcc
      obtain ⟨s, hs⟩ : ∃ s, s = ss.getD k ByteArray.empty := ⟨_, rfl⟩
      rw [← hs] at hcell
      have HS : Hid (s = ss.getD k ByteArray.empty) := hs
      clear hs
      go_wp2
      · go_ret
        exact ⟨ret_bool (has_hit hlt HS.out ‹_›), rfl⟩
      · go_round
        case rel => exact ⟨k + 1, by omega, by go_num, has_step hlt HS.out HN.out ‹_›⟩
        case measure => simp [intOf]; omega
    · go_wp2
      go_ret
      exact ⟨ret_bool (has_miss hlt HN.out), rfl⟩

/-- The cells of a slice of strings, one at a time. -/
theorem Strs.at {w : World} {a : Option Addr} {ss : List ByteArray} (hs : Strs w a ss.length ss) : ∀ k, k < ss.length → ∃ b off, a = some ⟨b, off, none⟩ ∧ w.cell? ⟨b, off + k, none⟩ = some (.string (ss.getD k ByteArray.empty)) := by
  intro k hk
  rcases hs.2 with rfl | ⟨b, off, rfl, hc⟩
  · simp at hk
  · exact ⟨b, off, rfl, hc k hk⟩

/-- It returns a bool, whichever. -/
def RetBool (e : Ending) : Prop := ∃ b : Bool, e = .returned (.bool b)
/-- It returns an int and a bool, whichever. -/
def RetIntBool (e : Ending) : Prop := ∃ (n : Int) (b : Bool), e = .returned (.tuple #[.int .i64 n, .bool b])

set_option maxHeartbeats 400000 in
theorem fit_any (a : Option Addr) (len cap : Nat) (ss : List ByteArray) (b0 : Int) (w : World) (hm : len ≤ maxLen) (hs : Strs w a len ss) :
    Calls Try.prog 23 #[.slice a len cap, .int .i64 b0] w fun e w' => RetIntBool e ∧ w = w' := by
  unfold maxLen at hm
  obtain rfl := hs.1
  have hcc := hs.at
  clear hs
  go_enter Try.func23, Try.ntmps23
  go_wp2
  go_loop [1, 6] (fun n i => ∃ k : Nat, k ≤ ss.length ∧ i = .int .i64 k ∧ ∃ z : Int, n = .int .i64 z) (fun _ i => ss.length - (intOf i).toNat)
  case atStart => exact ⟨0, Nat.zero_le _, rfl, _, rfl⟩
  case round =>
    obtain ⟨k, hk, rfl, z, rfl⟩ := hrel
    by_cases hlt : k < ss.length
    · obtain ⟨b, off, rfl, hcell⟩ := hcc k hlt
      clear hcc
      obtain ⟨s, hs⟩ : ∃ s, s = ss.getD k ByteArray.empty := ⟨_, rfl⟩
      rw [← hs] at hcell
      clear hs
      go_wp2
      · go_ret2
        exact ⟨⟨_, _, rfl⟩, rfl⟩
      · go_ret2
        exact ⟨⟨_, _, rfl⟩, rfl⟩
      · go_round
        case rel => exact ⟨k + 1, by omega, by go_num, _, rfl⟩
        case measure => simp [intOf]; omega
    · go_wp2
      go_ret2
      exact ⟨⟨_, _, rfl⟩, rfl⟩

set_option maxHeartbeats 400000 in
theorem bytesFit_any (a0 a1 : Option Addr) (len0 cap0 len1 cap1 : Nat) (s0 s1 : List ByteArray) (x : ByteArray) (w : World) (hm0 : len0 ≤ maxLen) (hm1 : len1 ≤ maxLen) (h0 : Strs w a0 len0 s0) (h1 : Strs w a1 len1 s1) :
    Calls Try.prog 9 #[.slice a0 len0 cap0, .slice a1 len1 cap1, .string x] w fun e w' => RetBool e ∧ w = w' := by
  go_enter Try.func9, Try.ntmps9
  go_wp2_with fail
  · go_ret
    exact ⟨⟨_, rfl⟩, rfl⟩
  · refine (fit_any _ _ _ _ _ _ hm0 h0).mono ?_
    rintro e w' ⟨⟨n, b, rfl⟩, rfl⟩
    cases b
    · go_wp2_with fail
      go_ret
      exact ⟨⟨_, rfl⟩, rfl⟩
    · go_wp2_with fail
      refine (fit_any _ _ _ _ _ _ hm1 h1).mono ?_
      rintro e w' ⟨⟨n, b, rfl⟩, rfl⟩
      go_wp2_with fail
      go_ret
      exact ⟨⟨_, rfl⟩, rfl⟩

set_option maxHeartbeats 800000 in
theorem bytes8_any (a0 a1 : Option Addr) (len0 cap0 len1 cap1 : Nat) (s0 s1 : List ByteArray) (x : ByteArray) (w : World) (hm0 : len0 ≤ maxLen) (hm1 : len1 ≤ maxLen) (h0 : Strs w a0 len0 s0) (h1 : Strs w a1 len1 s1) :
    Calls Try.prog 8 #[.slice a0 len0 cap0, .slice a1 len1 cap1, .string x] w fun e w' => RetBool e ∧ w = w' := by
  unfold maxLen at hm0 hm1
  obtain rfl := h0.1
  obtain rfl := h1.1
  have hc0 := h0.at
  have hc1 := h1.at
  clear h0 h1
  go_enter Try.func8, Try.ntmps8
  go_wp2
  · go_ret
    exact ⟨⟨_, rfl⟩, rfl⟩
  · go_loop [7, 8] (fun n i => ∃ k : Nat, k ≤ s0.length ∧ i = .int .i64 k ∧ ∃ z : Int, n = .int .i64 z) (fun _ i => s0.length - (intOf i).toNat)
    case atStart => exact ⟨0, Nat.zero_le _, rfl, _, rfl⟩
    case round =>
      obtain ⟨k, hk, rfl, z, rfl⟩ := hrel
      by_cases hlt : k < s0.length
      · obtain ⟨b, off, rfl, hcell⟩ := hc0 k hlt
        clear hc0 hc1
        obtain ⟨s, hs⟩ : ∃ s, s = s0.getD k ByteArray.empty := ⟨_, rfl⟩
        rw [← hs] at hcell
        clear hs
        go_wp2
        · go_ret
          exact ⟨⟨_, rfl⟩, rfl⟩
        · go_ret
          exact ⟨⟨_, rfl⟩, rfl⟩
        · go_round
          case rel => exact ⟨k + 1, by omega, by go_num, _, rfl⟩
          case measure => simp [intOf]; omega
      · clear hc0
        go_wp2
        · go_ret
          exact ⟨⟨_, rfl⟩, rfl⟩
        · go_ret
          exact ⟨⟨_, rfl⟩, rfl⟩
        · go_loop [7, 9] (fun n i => ∃ k : Nat, k ≤ s1.length ∧ i = .int .i64 k ∧ ∃ z : Int, n = .int .i64 z) (fun _ i => s1.length - (intOf i).toNat)
          case atStart => exact ⟨0, Nat.zero_le _, rfl, _, rfl⟩
          case round =>
            obtain ⟨k, hk, rfl, z, rfl⟩ := hrel
            by_cases hlt : k < s1.length
            · obtain ⟨b, off, rfl, hcell⟩ := hc1 k hlt
              clear hc1
              obtain ⟨s, hs⟩ : ∃ s, s = s1.getD k ByteArray.empty := ⟨_, rfl⟩
              rw [← hs] at hcell
              clear hs
              go_wp2
              · go_ret
                exact ⟨⟨_, rfl⟩, rfl⟩
              · go_ret
                exact ⟨⟨_, rfl⟩, rfl⟩
              · go_round
                case rel => exact ⟨k + 1, by omega, by go_num, _, rfl⟩
                case measure => simp [intOf]; omega
            · clear hc1
              go_wp2
              all_goals
                go_ret
                exact ⟨⟨_, rfl⟩, rfl⟩
set_option maxHeartbeats 800000 in
theorem bytes19_any (a0 a1 : Option Addr) (len0 cap0 len1 cap1 : Nat) (s0 s1 : List ByteArray) (x : ByteArray) (w : World) (hm0 : len0 ≤ maxLen) (hm1 : len1 ≤ maxLen) (h0 : Strs w a0 len0 s0) (h1 : Strs w a1 len1 s1) :
    Calls Try.prog 19 #[.slice a0 len0 cap0, .slice a1 len1 cap1, .string x] w fun e w' => RetBool e ∧ w = w' := by
  unfold maxLen at hm0 hm1
  obtain rfl := h0.1
  obtain rfl := h1.1
  have hc0 := h0.at
  have hc1 := h1.at
  clear h0 h1
  go_enter Try.func19, Try.ntmps19
  go_wp2
  · go_ret
    exact ⟨⟨_, rfl⟩, rfl⟩
  · go_loop [7, 8] (fun n i => ∃ k : Nat, k ≤ s0.length ∧ i = .int .i64 k ∧ ∃ z : Int, n = .int .i64 z) (fun _ i => s0.length - (intOf i).toNat)
    case atStart => exact ⟨0, Nat.zero_le _, rfl, _, rfl⟩
    case round =>
      obtain ⟨k, hk, rfl, z, rfl⟩ := hrel
      by_cases hlt : k < s0.length
      · obtain ⟨b, off, rfl, hcell⟩ := hc0 k hlt
        clear hc0 hc1
        obtain ⟨s, hs⟩ : ∃ s, s = s0.getD k ByteArray.empty := ⟨_, rfl⟩
        rw [← hs] at hcell
        clear hs
        go_wp2
        · go_ret
          exact ⟨⟨_, rfl⟩, rfl⟩
        · go_ret
          exact ⟨⟨_, rfl⟩, rfl⟩
        · go_round
          case rel => exact ⟨k + 1, by omega, by go_num, _, rfl⟩
          case measure => simp [intOf]; omega
      · clear hc0
        go_wp2
        · go_ret
          exact ⟨⟨_, rfl⟩, rfl⟩
        · go_ret
          exact ⟨⟨_, rfl⟩, rfl⟩
        · go_loop [7, 9] (fun n i => ∃ k : Nat, k ≤ s1.length ∧ i = .int .i64 k ∧ ∃ z : Int, n = .int .i64 z) (fun _ i => s1.length - (intOf i).toNat)
          case atStart => exact ⟨0, Nat.zero_le _, rfl, _, rfl⟩
          case round =>
            obtain ⟨k, hk, rfl, z, rfl⟩ := hrel
            by_cases hlt : k < s1.length
            · obtain ⟨b, off, rfl, hcell⟩ := hc1 k hlt
              clear hc1
              obtain ⟨s, hs⟩ : ∃ s, s = s1.getD k ByteArray.empty := ⟨_, rfl⟩
              rw [← hs] at hcell
              clear hs
              go_wp2
              · go_ret
                exact ⟨⟨_, rfl⟩, rfl⟩
              · go_ret
                exact ⟨⟨_, rfl⟩, rfl⟩
              · go_round
                case rel => exact ⟨k + 1, by omega, by go_num, _, rfl⟩
                case measure => simp [intOf]; omega
            · clear hc1
              go_wp2
              all_goals
                go_ret
                exact ⟨⟨_, rfl⟩, rfl⟩

set_option maxHeartbeats 800000 in
theorem bytes22_any (a0 a1 : Option Addr) (len0 cap0 len1 cap1 : Nat) (s0 : List ByteArray) (w : World) (hm0 : len0 ≤ maxLen) (_hm1 : len1 ≤ maxLen) (h0 : Strs w a0 len0 s0) :
    Calls Try.prog 22 #[.slice a0 len0 cap0, .slice a1 len1 cap1] w fun e w' => RetBool e ∧ w = w' := by
  unfold maxLen at hm0 _hm1
  obtain rfl := h0.1
  have hc0 := h0.at
  clear h0
  go_enter Try.func22, Try.ntmps22
  go_wp2
  · go_ret
    exact ⟨⟨_, rfl⟩, rfl⟩
  · go_loop [5, 6] (fun n i => ∃ k : Nat, k ≤ s0.length ∧ i = .int .i64 k ∧ ∃ z : Int, n = .int .i64 z) (fun _ i => s0.length - (intOf i).toNat)
    case atStart => exact ⟨0, Nat.zero_le _, rfl, _, rfl⟩
    case round =>
      obtain ⟨k, hk, rfl, z, rfl⟩ := hrel
      by_cases hlt : k < s0.length
      · obtain ⟨b, off, rfl, hcell⟩ := hc0 k hlt
        clear hc0
        obtain ⟨s, hs⟩ : ∃ s, s = s0.getD k ByteArray.empty := ⟨_, rfl⟩
        rw [← hs] at hcell
        clear hs
        go_wp2
        · go_ret
          exact ⟨⟨_, rfl⟩, rfl⟩
        · go_ret
          exact ⟨⟨_, rfl⟩, rfl⟩
        · go_round
          case rel => exact ⟨k + 1, by omega, by go_num, _, rfl⟩
          case measure => simp [intOf]; omega
      · clear hc0
        go_wp2
        all_goals
          go_ret
          exact ⟨⟨_, rfl⟩, rfl⟩

/-! ### allDistinct: a test with two reads draws its order: the world is drawn from, and nothing else -/

theorem nodup_step {ss : List ByteArray} {i : Nat} (hi : i < ss.length) (h : (ss.take i).Nodup) (hn : ss.getD i ByteArray.empty ∉ ss.take i) : (ss.take (i + 1)).Nodup := by
  rw [take_succ_getD ss i hi, List.nodup_append]
  refine ⟨h, by simp, ?_⟩
  intro a ha b hb
  simp at hb
  subst hb
  intro e
  subst e
  exact hn (by simpa using ha)

theorem not_nodup {ss : List ByteArray} {i j : Nat} {s t : ByteArray} (hj : j < i) (hi : i < ss.length) (hs : s = ss.getD j ByteArray.empty) (ht : t = ss.getD i ByteArray.empty) (he : (s.toList == t.toList) = true) : ¬ ss.Nodup := by
  have e := eq_of_beq he
  intro hn
  have h1 : ss[j]'(by omega) = ss[i] := by simpa [List.getD, hi, show j < ss.length by omega, hs, ht] using e
  have := (List.nodup_iff_pairwise_ne.1 hn)
  rw [List.pairwise_iff_getElem] at this
  exact this j i (by omega) hi hj h1

/-- It returns a bool that is true just if p holds. -/
def RetIff (p : Prop) (e : Ending) : Prop := ∃ b : Bool, e = .returned (.bool b) ∧ (b = true ↔ p)

set_option maxHeartbeats 800000 in
theorem distinct_any (a : Option Addr) (len cap : Nat) (ss : List ByteArray) (w : World) (hm : len ≤ maxLen) (hs : Strs w a len ss) :
    Calls Try.prog 10 #[.slice a len cap] w fun e w' => RetIff ss.Nodup e ∧ Below w.heap.size w w' := by
  unfold maxLen at hm
  obtain rfl := hs.1
  go_enter Try.func10, Try.ntmps10
  go_wp2
  go_loopw [3] (fun i wr => ∃ k : Nat, k ≤ ss.length ∧ i = .int .i64 k ∧ (ss.take k).Nodup ∧ Below w.heap.size w wr) (fun i _ => ss.length - (intOf i).toNat)
  case atStart => exact ⟨0, Nat.zero_le _, rfl, by simp, Below.refl _ _⟩
  case round =>
    obtain ⟨k, hk, rfl, hn, hb⟩ := hrel
    have hsr := hs.ext hb
    by_cases hlt : k < ss.length
    · have HN : Hid ((ss.take k).Nodup) := hn
      obtain ⟨b, off, rfl, hck⟩ := hsr.at k hlt
      obtain ⟨s, hse⟩ : ∃ s, s = ss.getD k ByteArray.empty := ⟨_, rfl⟩
      rw [← hse] at hck
      have HK : Hid (s = ss.getD k ByteArray.empty) := hse
      clear hse hn
      go_wp2
      go_loopw [4] (fun j wx => ∃ m : Nat, m ≤ k ∧ j = .int .i64 m ∧ s ∉ ss.take m ∧ Below w.heap.size w wx) (fun j _ => k - (intOf j).toNat)
      case atStart => exact ⟨0, Nat.zero_le _, rfl, by simp, hb⟩
      case round =>
        obtain ⟨m, hmk, rfl, hnm, hbx⟩ := hrel
        have HM : Hid (s ∉ ss.take m) := hnm
        clear hnm
        by_cases hjm : m < k
        · obtain ⟨b', off', he', hcm⟩ := hs.at m (by omega)
          cases he'
          obtain ⟨r, hre⟩ : ∃ r, r = ss.getD m ByteArray.empty := ⟨_, rfl⟩
          rw [← hre] at hcm
          have HR : Hid (r = ss.getD m ByteArray.empty) := hre
          clear hre
          have c1 := (hbx.cell (p := ⟨b, off + k, none⟩) (World.block_lt_of_cell? w ⟨b, off + m, none⟩ hcm)).trans ((hb.cell (p := ⟨b, off + k, none⟩) (World.block_lt_of_cell? w ⟨b, off + m, none⟩ hcm)).symm.trans hck)
          have c2 := (hbx.cell (p := ⟨b, off + m, none⟩) (World.block_lt_of_cell? w ⟨b, off + m, none⟩ hcm)).trans hcm
          clear hck hcm
          go_wp2
          go_region
          all_goals go_wp2
          · go_ret
            exact ⟨⟨false, rfl, by simpa using not_nodup hjm hlt HR.out HK.out ‹_›⟩, hbx.drew⟩
          · go_roundw
            case rel => exact ⟨m + 1, by omega, by go_num, has_step (by omega) HR.out HM.out ‹_›, hbx.drew⟩
            case measure => simp [intOf]; omega
        · go_wp2
          go_roundw
          case rel => exact ⟨k + 1, by omega, by go_num, nodup_step hlt HN.out (by rw [← HK.out]; have := HM.out; rwa [show m = k by omega] at this), hbx⟩
          case measure => simp [intOf]; omega
    · go_wp2
      go_ret
      exact ⟨⟨true, rfl, by rw [List.take_of_length_le (by omega)] at hn; simpa using hn⟩, hb⟩
end Go.Proofs.Qxb6601288a
