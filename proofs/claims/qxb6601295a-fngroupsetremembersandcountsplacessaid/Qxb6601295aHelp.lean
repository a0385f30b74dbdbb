/-
  gsClone, gsContains, gsPlace, gsDistinctPlaces.
-/
import Derived.Test.Qxb6601295aReads
namespace Go.Proofs.Qxb6601295a
open Go.RowKit

theorem Try.info3 : (Try.prog.info? 3).map (fun i => (i.zero, i.size, i.bytes)) = some (some (.int .i64 0), 1, 8) := by kernel_rfl
theorem eqNil40 (w : World) (a : Option Addr) (n c : Nat) : (binOp .eql 40 (.slice a n c) (.slice none 0 0)).run Try.prog w = .ok (.bool a.isNone) w := Lib.run_eql_slice_nil w 40 3 a n c 0 0 Try.underlying40

def rowAt (zs : List Int) (k : Nat) : List Value := (zs.take k).map (Value.int .i64) ++ List.replicate (zs.length - k) (.int .i64 0)

theorem rowAt_zero (zs : List Int) : rowAt zs 0 = (madeCells (Value.int .i64 0).cells (zs.length * 1)).toList := by
  simp [rowAt, Value.cells, toList_madeCells_one]

theorem rowAt_len (zs : List Int) : rowAt zs zs.length = zs.map (Value.int .i64) := by simp [rowAt]

theorem rowAt_set (zs : List Int) (k : Nat) (h : k < zs.length) : (rowAt zs k).set k (.int .i64 (zs.getD k 0)) = rowAt zs (k + 1) := by
  unfold rowAt
  rw [List.set_append_right _ _ (by simp; omega), take_succ_getD zs k h]
  have e : zs.length - k = (zs.length - (k + 1)) + 1 := by omega
  simp [show min k zs.length = k by omega, e, List.replicate_succ]

theorem rowAt_get (zs : List Int) (k : Nat) (h : k < zs.length) : (rowAt zs k)[k]? = some (.int .i64 0) := by
  unfold rowAt
  rw [List.getElem?_append_right (by simp; omega)]
  rw [List.getElem?_replicate]
  simp [show min k zs.length = k by omega]
  omega

theorem Ints.of_owns {w : World} {base g cap : Nat} {zs : List Int} (h : w.ownsRow base 3 1 (.slice (some ⟨g, 0, none⟩) zs.length cap) zs.length (zs.map (Value.int .i64))) : Ints w (some ⟨g, 0, none⟩) zs.length zs := by
  refine ⟨rfl, .inr ⟨g, 0, rfl, fun i hi => ?_⟩⟩
  have h1 := h.cellAt (g := g) i (by omega)
  rw [Nat.zero_add, h1]
  simp [hi]

set_option maxHeartbeats 400000 in
theorem clone_nil (n c : Nat) (w : World) : Calls Try.prog 28 #[.slice none n c] w fun e w' => e = .returned (.slice none 0 0) ∧ w = w' := by
  have h40 := eqNil40
  go_enter Try.func28, Try.ntmps28
  go_wp2
  go_ret
  exact ⟨rfl, rfl⟩

set_option maxHeartbeats 400000 in
theorem clone_some (x : Addr) (cap : Nat) (zs : List Int) (w : World) (hl : zs.length ≤ 4096) (hs : Ints w (some x) zs.length zs) :
    Calls Try.prog 28 #[.slice (some x) zs.length cap] w fun e w' => e = .returned (.slice (some ⟨w.heap.size, 0, none⟩) zs.length zs.length) ∧ Ints w' (some ⟨w.heap.size, 0, none⟩) zs.length zs ∧ Below w.heap.size w w' := by
  have h40 := eqNil40
  obtain ⟨i0, hi, hz0, hz1, hz2⟩ := info_parts Try.info3
  go_enter Try.func28, Try.ntmps28
  go_wp2_with (at_make; refine wpList_make_full _ rfl _ _ 40 rfl w.heap.size 3 i0 (.int .i64 0) 1 Try.underlying40 hi hz0 hz1 .i64 .i64 _ _ zs.length rfl rfl rfl rfl (by rw [hz2]; omega) (by unfold maxLen; omega) (Nat.le_refl _) ?_; intro w1 hown hgr)
  go_loopw [4] (fun i wr => ∃ k : Nat, k ≤ zs.length ∧ i = .int .i64 k ∧ wr.ownsRow w.heap.size 3 1 (.slice (some ⟨w.heap.size, 0, none⟩) zs.length zs.length) zs.length (rowAt zs k) ∧ Below w.heap.size w wr) (fun i _ => zs.length - (intOf i).toNat)
  case atStart => exact ⟨0, Nat.zero_le _, rfl, by rw [rowAt_zero]; exact hown, (Below.refl _ _).grown hgr (Nat.le_refl _) (fun _ h => by cases h)⟩
  case round =>
    obtain ⟨k, hk, rfl, hownr, hb⟩ := hrel
    clear hown hgr
    by_cases hlt : k < zs.length
    · obtain ⟨b, off, he, hcell⟩ := (hs.ext hb).at k hlt
      cases he
      obtain ⟨z, hze⟩ : ∃ z, z = zs.getD k 0 := ⟨_, rfl⟩
      rw [← hze] at hcell
      have HS : Hid (z = zs.getD k 0) := hze
      clear hze
      have hc2 := hownr.cellAt k (by omega)
      rw [rowAt_get zs k hlt] at hc2
      have hf2 := hownr.frozenAt k
      have hst := hownr.stored k (.int .i64 z)
      clear hs
      go_wp2
      go_roundw
      case rel => exact ⟨k + 1, by omega, by go_num, by have h1 := rowAt_set zs k hlt; rw [← HS.out] at h1; rw [← h1]; exact hst.1, hb.setCell (Nat.le_refl _) _⟩
      case measure => simp [intOf]; omega
    · have hke : k = zs.length := by omega
      subst hke
      rw [rowAt_len] at hownr
      go_wp2
      go_ret
      exact ⟨rfl, Ints.of_owns hownr, hb⟩

theorem clone_any (a : Option Addr) (cap : Nat) (zs : List Int) (w : World) (hl : zs.length ≤ 4096) (hs : Ints w a zs.length zs) (hn : a = none → zs = []) :
    Calls Try.prog 28 #[.slice a zs.length cap] w fun e w' => ∃ a' c', e = .returned (.slice a' zs.length c') ∧ Ints w' a' zs.length zs ∧ Below w.heap.size w w' := by
  cases a with
  | none =>
    obtain rfl := hn rfl
    refine (clone_nil _ _ w).mono ?_
    rintro e w' ⟨rfl, rfl⟩
    exact ⟨none, 0, rfl, ⟨rfl, .inl rfl⟩, Below.refl _ _⟩
  | some x =>
    refine (clone_some x cap zs w hl hs).mono ?_
    rintro e w' ⟨rfl, ho, hb⟩
    exact ⟨_, _, rfl, ho, hb⟩

/-! ### gsContains -/
theorem has_step {zs : List Int} {x z : Int} {k : Nat} (hk : k < zs.length) (hz : z = zs.getD k 0) (h0 : x ∉ zs.take k) (ht : (z == x) = false) : x ∉ zs.take (k + 1) := by
  rw [take_succ_getD zs k hk, ← hz]
  have := ne_of_beqI ht
  simp [h0, this.symm]

set_option maxHeartbeats 400000 in
theorem contains_any (a : Option Addr) (cap : Nat) (zs : List Int) (x : Int) (w : World) (hl : zs.length ≤ 4096) (hs : Ints w a zs.length zs) :
    Calls Try.prog 31 #[.slice a zs.length cap, .int .i64 x] w fun e w' => e = .returned (.bool (inI zs x)) ∧ w = w' := by
  go_enter Try.func31, Try.ntmps31
  go_wp2
  go_loop [5] (fun i => ∃ k : Nat, k ≤ zs.length ∧ i = .int .i64 k ∧ x ∉ zs.take k) (fun i => zs.length - (intOf i).toNat)
  case atStart => exact ⟨0, Nat.zero_le _, rfl, by simp⟩
  case round =>
    obtain ⟨k, hk, rfl, hn⟩ := hrel
    have HN : Hid (x ∉ zs.take k) := hn
    clear hn
    by_cases hlt : k < zs.length
    · obtain ⟨b, off, rfl, hcell⟩ := hs.at k hlt
      clear hs
      obtain ⟨z, hze⟩ : ∃ z, z = zs.getD k 0 := ⟨_, rfl⟩
      rw [← hze] at hcell
      have HZ : Hid (z = zs.getD k 0) := hze
      clear hze
      go_wp2
      · go_ret
        have he : (z == x) = true := by assumption
        exact ⟨ret_bool (inI_true.2 (by rw [← eq_of_beqI he, HZ.out]; exact getD_mem zs k hlt)).symm, rfl⟩
      · go_round
        case rel => exact ⟨k + 1, by omega, by go_num, has_step hlt HZ.out HN.out ‹_›⟩
        case measure => simp [intOf]; omega
    · clear hs
      go_wp2
      go_ret
      exact ⟨ret_bool (inI_false.2 (by have := HN.out; rwa [List.take_of_length_le (by omega)] at this)).symm, rfl⟩

/-! ### gsPlace, gsDistinctPlaces -/
/-- The places of the groups, m's behind them. -/
def places (zs : List Int) (m : Int) : List Int := (zs ++ [m]).map (· / 64)

theorem places_lt (zs : List Int) (m : Int) {i : Nat} (h : i < zs.length) : (places zs m).getD i 0 = zs.getD i 0 / 64 := by
  simp [places, List.getD, List.getElem?_append_left, h]
theorem places_last (zs : List Int) (m : Int) : (places zs m).getD zs.length 0 = m / 64 := by
  simp [places, List.getD]
theorem places_len (zs : List Int) (m : Int) : (places zs m).length = zs.length + 1 := by simp [places]

set_option maxHeartbeats 400000 in
theorem place_any (a : Option Addr) (cap : Nat) (zs : List Int) (m : Int) (i : Nat) (w : World) (_hl : zs.length ≤ 4096) (hs : Ints w a zs.length zs) (hf : Fits zs) (hm : 0 ≤ m) (hm2 : m < 137438953472) (hi : i ≤ zs.length) :
    Calls Try.prog 41 #[.slice a zs.length cap, .int .i64 m, .int .i64 i] w fun e w' => e = .returned (.int .i64 ((places zs m).getD i 0)) ∧ w = w' := by
  by_cases hlt : i < zs.length
  · obtain ⟨b, off, rfl, hcell⟩ := hs.at i hlt
    obtain ⟨z, hze⟩ : ∃ z, z = zs.getD i 0 := ⟨_, rfl⟩
    have hz0 : 0 ≤ z := by rw [hze]; exact (hf _ (getD_mem zs i hlt)).1
    have hz1 : z < 137438953472 := by rw [hze]; exact (hf _ (getD_mem zs i hlt)).2
    rw [← hze] at hcell
    have HZ : Hid (z = zs.getD i 0) := hze
    clear hze hs
    go_enter Try.func41, Try.ntmps41
    go_wp2
    go_ret
    exact ⟨ret_int (by rw [HZ.out]; exact (places_lt zs m hlt).symm), rfl⟩
  · obtain rfl : i = zs.length := by omega
    clear hs
    go_enter Try.func41, Try.ntmps41
    go_wp2
    go_ret
    exact ⟨ret_int (places_last zs m).symm, rfl⟩

/-- Each number once, in the order of its first place. -/
def addN (L : List Int) (x : Int) : List Int := if inI L x then L else L ++ [x]
def distinct (ss : List Int) : List Int := ss.foldl addN []

theorem distinct_snoc (ss : List Int) (x : Int) : distinct (ss ++ [x]) = addN (distinct ss) x := by simp [distinct, List.foldl_append]
theorem addN_old {m : List Int} {x : Int} (h : inI m x = true) : addN m x = m := by simp [addN, h]
theorem addN_new {m : List Int} {x : Int} (h : inI m x = false) : addN m x = m ++ [x] := by simp [addN, h]

theorem mem_addN {m : List Int} {x y : Int} : y ∈ addN m x ↔ y ∈ m ∨ y = x := by
  cases h : inI m x
  · rw [addN_new h]; simp
  · rw [addN_old h]
    have := inI_true.1 h
    constructor
    · exact .inl
    · rintro (h | rfl)
      · exact h
      · exact this

theorem nodup_addN {m : List Int} {x : Int} (hm : m.Nodup) : (addN m x).Nodup := by
  cases h : inI m x
  · rw [addN_new h, List.nodup_append]
    refine ⟨hm, by simp, ?_⟩
    intro a ha b hb e
    simp at hb
    subst hb
    subst e
    exact inI_false.1 h ha
  · rw [addN_old h]; exact hm

theorem mem_fold : ∀ (ss m : List Int) (y : Int), y ∈ ss.foldl addN m ↔ y ∈ m ∨ y ∈ ss
  | [], m, y => by simp
  | x :: r, m, y => by rw [List.foldl_cons, mem_fold r, mem_addN]; simp [or_assoc]
theorem mem_distinct {ss : List Int} {y : Int} : y ∈ distinct ss ↔ y ∈ ss := by simp [distinct, mem_fold]
theorem nodup_fold : ∀ (ss m : List Int), m.Nodup → (ss.foldl addN m).Nodup
  | [], _, h => h
  | x :: r, m, h => nodup_fold r (addN m x) (nodup_addN h)
theorem nodup_distinct (ss : List Int) : (distinct ss).Nodup := nodup_fold ss [] (by simp)
theorem distinct_le (ss : List Int) : (distinct ss).length ≤ ss.length := sub_len _ _ (nodup_distinct ss) (fun _ h => mem_distinct.1 h)

theorem distinct_old {ss : List Int} {k : Nat} {q : Int} (hk : k < ss.length) (hq : q = ss.getD k 0) (h : q ∈ ss.take k) : (distinct (ss.take (k + 1))).length = (distinct (ss.take k)).length := by
  rw [take_succ_getD ss k hk, distinct_snoc, ← hq, addN_old (inI_true.2 (mem_distinct.2 h))]
theorem distinct_new {ss : List Int} {k : Nat} {q : Int} (hk : k < ss.length) (hq : q = ss.getD k 0) (h : q ∉ ss.take k) : (distinct (ss.take (k + 1))).length = (distinct (ss.take k)).length + 1 := by
  rw [take_succ_getD ss k hk, distinct_snoc, ← hq, addN_new (inI_false.2 (fun e => h (mem_distinct.1 e)))]
  simp

theorem mem_take_of {Q : List Int} {d k : Nat} {q : Int} (hd : d < k) (hk : k < Q.length) (h : Q.getD d 0 = q) : q ∈ Q.take k := by
  have h1 : (Q.take k).getD d 0 = q := by rw [← h]; simp [List.getD, hd]
  rw [← h1]
  exact getD_mem _ _ (by simp; omega)

set_option maxHeartbeats 800000 in
theorem distinct_any (a : Option Addr) (cap : Nat) (zs : List Int) (m : Int) (w : World) (hl : zs.length ≤ 4096) (hs : Ints w a zs.length zs) (hf : Fits zs) (hm : 0 ≤ m) (hm2 : m < 137438953472) :
    Calls Try.prog 33 #[.slice a zs.length cap, .int .i64 m] w fun e w' => e = .returned (.int .i64 (distinct (places zs m)).length) ∧ w = w' := by
  have k41 := fun i => place_any a cap zs m i w hl hs hf hm hm2
  have hlen := places_len zs m
  obtain ⟨Q, hQ⟩ : ∃ Q, Q = places zs m := ⟨_, rfl⟩
  rw [← hQ] at k41 hlen ⊢
  have HL : Hid (Q.length = zs.length + 1) := hlen
  clear hQ hs hf hlen
  go_enter Try.func33, Try.ntmps33
  go_wp2_with fail
  go_loop [5, 6] (fun c i => ∃ k : Nat, k ≤ zs.length + 1 ∧ i = .int .i64 k ∧ c = .int .i64 (distinct (Q.take k)).length) (fun _ i => zs.length + 1 - (intOf i).toNat)
  case atStart => exact ⟨0, Nat.zero_le _, rfl, rfl⟩
  case round =>
    obtain ⟨k, hk, rfl, rfl⟩ := hrel
    have hdl : (distinct (Q.take k)).length ≤ k := Nat.le_trans (distinct_le _) (List.length_take_le _ _)
    obtain ⟨c, hc⟩ : ∃ c, c = (distinct (Q.take k)).length := ⟨_, rfl⟩
    rw [← hc] at hdl ⊢
    have HC : Hid (c = (distinct (Q.take k)).length) := hc
    clear hc
    by_cases hlt : k ≤ zs.length
    · have ki := k41 k hlt
      obtain ⟨q, hq⟩ : ∃ q, q = Q.getD k 0 := ⟨_, rfl⟩
      rw [← hq] at ki
      have HQ : Hid (q = Q.getD k 0) := hq
      clear hq
      go_wp2_with fail
      refine ki.mono ?_
      rintro e w' ⟨rfl, rfl⟩
      clear ki
      go_wp2_with fail
      go_loop [8, 9] (fun s j => ∃ d : Nat, d ≤ k ∧ j = .int .i64 d ∧ s = .bool false ∧ q ∉ Q.take d) (fun _ j => k - (intOf j).toNat)
      case atStart => exact ⟨0, Nat.zero_le _, rfl, rfl, by simp⟩
      case round =>
        obtain ⟨d, hd, rfl, rfl, hn⟩ := hrel
        have HN : Hid (q ∉ Q.take d) := hn
        clear hn
        by_cases hdk : d < k
        · have kd := k41 d (by omega)
          obtain ⟨r, hr⟩ : ∃ r, r = Q.getD d 0 := ⟨_, rfl⟩
          rw [← hr] at kd
          have HR : Hid (r = Q.getD d 0) := hr
          clear hr k41
          go_wp2_with fail
          refine kd.mono ?_
          rintro e w' ⟨rfl, rfl⟩
          clear kd
          go_wp2_with fail
          · have he : (r == q) = true := by assumption
            have hQk : k < Q.length := by rw [HL.out]; omega
            go_round
            case rel => exact ⟨k + 1, by omega, by go_num, by rw [distinct_old hQk HQ.out (mem_take_of hdk hQk (by rw [← HR.out]; exact eq_of_beqI he)), ← HC.out]⟩
            case measure => simp [intOf]; omega
          · have he : (r == q) = false := by assumption
            have hQd : d < Q.length := by rw [HL.out]; omega
            go_round
            case rel => exact ⟨d + 1, by omega, by go_num, rfl, has_step hQd HR.out HN.out he⟩
            case measure => simp [intOf]; omega
        · clear k41
          have hQk : k < Q.length := by rw [HL.out]; omega
          go_wp2
          go_round
          case rel => exact ⟨k + 1, by omega, by go_num, by rw [distinct_new hQk HQ.out (by have := HN.out; rwa [show d = k by omega] at this), ← HC.out]; go_num⟩
          case measure => simp [intOf]; omega
    · clear k41
      go_wp2
      go_ret
      exact ⟨ret_int (by rw [HC.out, List.take_of_length_le (by rw [HL.out]; omega)]), rfl⟩
end Go.Proofs.Qxb6601295a
