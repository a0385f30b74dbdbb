/-
  nameSetHolds AND nameSetShapeOK.
-/
import Derived.Test.Qxb6601288aLooks
namespace Go.Proofs.Qxb6601288a
open Go.RowKit Go.Maps

set_option maxHeartbeats 800000 in
theorem holds_few {w : World} {p : Nat} {fv : Value} {L M : List ByteArray} (h : Few w p fv L) (a : Option Addr) (cap : Nat) (hM : Strs w a M.length M) (hm : M.length ≤ maxLen) (hlen : L.length = M.length) (hsub : ∀ x ∈ M, x ∈ L) :
    Calls Try.prog 16 #[.pointer (some ⟨p, 0, none⟩), .slice a M.length cap] w fun e w' => e = .returned (.bool true) ∧ Below w.heap.size w w' := by
  have k37 : Calls Try.prog 37 #[.pointer (some ⟨p, 0, none⟩)] w fun e w' => e = .returned (.int .i64 M.length) ∧ w = w' := by rw [← hlen]; exact wrap37 (len_few h)
  obtain ⟨fa, fc, hfv, hfs, hfm, -⟩ := h.own.strs
  have k17 := few_any h.two hfv
  rw [hlen] at hfv
  subst hfv
  have k18 := isNil_any h.two
  have k13 : ∀ x, x ∈ M → Calls Try.prog 13 #[.slice fa M.length fc, .string x] w fun e w' => e = .returned (.bool true) ∧ w = w' := by
    intro x hx
    rw [← hlen, ← inB_true.2 (hsub x hx)]
    exact has_any fa L.length fc L x w hfm hfs
  clear hfs hfm h hsub
  unfold maxLen at hm
  go_enter Try.func16, Try.ntmps16
  go_wp2_with fail
  refine k37.mono ?_
  rintro e w' ⟨rfl, rfl⟩
  go_wp2_with fail
  refine k18.mono ?_
  rintro e w' ⟨rfl, rfl⟩
  go_wp2_with fail
  refine k17.mono ?_
  rintro e w' ⟨rfl, rfl⟩
  go_wp2_with fail
  go_loop [6] (fun i => ∃ k : Nat, k ≤ M.length ∧ i = .int .i64 k) (fun i => M.length - (intOf i).toNat)
  case atStart => exact ⟨0, Nat.zero_le _, rfl⟩
  case round =>
    obtain ⟨k, hk, rfl⟩ := hrel
    clear k37 k17 k18 hlen
    by_cases hlt : k < M.length
    · obtain ⟨b, off, rfl, hcell⟩ := hM.at k hlt
      obtain ⟨s, hse⟩ : ∃ s, s = M.getD k ByteArray.empty := ⟨_, rfl⟩
      have k1 := k13 s (by rw [hse]; exact getD_mem M k hlt)
      rw [← hse] at hcell
      clear hse k13 hM
      go_wp2_with fail
      refine k1.mono ?_
      rintro e w' ⟨rfl, rfl⟩
      go_wp2_with fail
      go_round
      case rel => exact ⟨k + 1, by omega, by go_num⟩
      case measure => simp [intOf]; omega
    · clear k13 hM
      go_wp2
      go_ret
      exact ⟨rfl, Below.refl _ _⟩

set_option maxHeartbeats 800000 in
theorem holds_many {w : World} {p m : Nat} {L M : List ByteArray} (h : Many w p m L) (a : Option Addr) (cap : Nat) (hM : Strs w a M.length M) (hm : M.length ≤ maxLen) (hlen : L.length = M.length) (hsub : ∀ x ∈ M, x ∈ L) (hsh : ∀ s ∈ M, s.size ≤ maxLen) :
    Calls Try.prog 16 #[.pointer (some ⟨p, 0, none⟩), .slice a M.length cap] w fun e w' => e = .returned (.bool true) ∧ Below w.heap.size w w' := by
  have k37 : Calls Try.prog 37 #[.pointer (some ⟨p, 0, none⟩)] w fun e w' => e = .returned (.int .i64 M.length) ∧ w = w' := by rw [← hlen]; exact wrap37 (len_many h)
  have k38 : Calls Try.prog 38 #[.pointer (some ⟨p, 0, none⟩)] w fun e w' => e = .returned (.int .i64 M.length) ∧ w = w' := by rw [← hlen]; exact manyLen_any h
  have k18 := isNil_any h.two
  have k39 : ∀ x wr, x ∈ M → Below w.heap.size w wr → Calls Try.prog 39 #[.pointer (some ⟨p, 0, none⟩), .string x] wr fun e w' => e = .returned (.bool true) ∧ Below w.heap.size w w' := by
    intro x wr hx hb
    rw [← inB_true.2 (hsub x hx)]
    refine (manyHas_any (h.ext hb) x (hsh x hx)).mono ?_
    rintro e w' ⟨rfl, hb'⟩
    exact ⟨rfl, hb.trans (hb'.mono hb.size)⟩
  clear h hsub
  unfold maxLen at hm
  go_enter Try.func16, Try.ntmps16
  go_wp2_with fail
  refine k37.mono ?_
  rintro e w' ⟨rfl, rfl⟩
  go_wp2_with fail
  refine k18.mono ?_
  rintro e w' ⟨rfl, rfl⟩
  go_wp2_with fail
  refine k38.mono ?_
  rintro e w' ⟨rfl, rfl⟩
  go_wp2_with fail
  go_loopw [7] (fun i wr => ∃ k : Nat, k ≤ M.length ∧ i = .int .i64 k ∧ Below w.heap.size w wr) (fun i _ => M.length - (intOf i).toNat)
  case atStart => exact ⟨0, Nat.zero_le _, rfl, Below.refl _ _⟩
  case round =>
    obtain ⟨k, hk, rfl, hb⟩ := hrel
    clear k37 k38 k18 hlen
    by_cases hlt : k < M.length
    · obtain ⟨b, off, rfl, hcell⟩ := (hM.ext hb).at k hlt
      obtain ⟨s, hse⟩ : ∃ s, s = M.getD k ByteArray.empty := ⟨_, rfl⟩
      have k1 := k39 s wr (by rw [hse]; exact getD_mem M k hlt) hb
      rw [← hse] at hcell
      clear hse k39 hM
      go_wp2_with fail
      refine k1.mono ?_
      rintro e w' ⟨rfl, hb'⟩
      go_wp2_with fail
      go_roundw
      case rel => exact ⟨k + 1, by omega, by go_num, hb'⟩
      case measure => simp [intOf]; omega
    · clear k39 hM
      go_wp2
      go_ret
      exact ⟨rfl, hb⟩

set_option maxHeartbeats 800000 in
theorem shape_few {w : World} {p : Nat} {fv : Value} {L : List ByteArray} (h : Few w p fv L) (hl : L.length ≤ 8) (hnd : L.Nodup) (hnil : L = [] → fv = .slice none 0 0) :
    Calls Try.prog 25 #[.pointer (some ⟨p, 0, none⟩)] w fun e w' => e = .returned (.bool true) ∧ Below w.heap.size w w' := by
  have q22 := eqNil22
  obtain ⟨fa, fc, rfl, hfs, hfm, -⟩ := h.own.strs
  have k17 := few_any h.two rfl
  have k18 := isNil_any h.two
  have k10 := distinct_any fa L.length fc L w hfm hfs
  clear hfs hfm h
  go_enter Try.func25, Try.ntmps25
  go_wp2_with fail
  refine k17.mono ?_
  rintro e w' ⟨rfl, rfl⟩
  go_wp2_with fail
  refine k18.mono ?_
  rintro e w' ⟨rfl, rfl⟩
  go_wp2_with fail
  refine k10.mono ?_
  rintro e w' ⟨⟨b, rfl, hbn⟩, hb⟩
  obtain rfl : b = true := hbn.2 hnd
  clear hbn k10 k17 k18
  by_cases h0 : L = []
  · have e := hnil h0
    subst h0
    cases e
    clear hnil
    go_wp2
    go_ret
    exact ⟨rfl, hb⟩
  · have hpos : 0 < L.length := List.length_pos_iff.2 h0
    clear hnil h0
    go_wp2
    go_ret
    exact ⟨rfl, hb⟩

set_option maxHeartbeats 800000 in
theorem shape_many {w : World} {p m : Nat} {L : List ByteArray} (h : Many w p m L) (hpos : 0 < L.length) (_hl : L.length ≤ maxLen) :
    Calls Try.prog 25 #[.pointer (some ⟨p, 0, none⟩)] w fun e w' => e = .returned (.bool true) ∧ Below w.heap.size w w' := by
  have q22 := eqNil22
  unfold maxLen at _hl
  have k17 := few_any h.two rfl
  have k18 := isNil_any h.two
  have k38 := manyLen_any h
  clear h
  go_enter Try.func25, Try.ntmps25
  go_wp2_with fail
  refine k17.mono ?_
  rintro e w' ⟨rfl, rfl⟩
  go_wp2_with fail
  refine k18.mono ?_
  rintro e w' ⟨rfl, rfl⟩
  go_wp2_with fail
  refine k38.mono ?_
  rintro e w' ⟨rfl, rfl⟩
  go_wp2_with fail
  go_ret
  exact ⟨ret_bool (by simp), Below.refl _ _⟩
end Go.Proofs.Qxb6601288a
