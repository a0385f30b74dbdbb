/-
  THE LOOKS FROM OUTSIDE, AND THE MAKER.
-/
import Derived.Test.Qxb6601288aRemove
namespace Go.Proofs.Qxb6601288a
open Go.RowKit Go.Maps

set_option maxHeartbeats 400000 in
theorem wrap15 {p : Nat} {x : ByteArray} {w : World} {Q : World → Prop} (h : Calls Try.prog 36 #[.pointer (some ⟨p, 0, none⟩), .string x] w fun e w' => e = .returned (.tuple #[]) ∧ Q w') :
    Calls Try.prog 15 #[.pointer (some ⟨p, 0, none⟩), .string x] w fun e w' => e = .returned (.tuple #[]) ∧ Q w' := by
  go_enter Try.func15, Try.ntmps15
  go_wp2_with fail
  refine h.mono ?_
  rintro e w' ⟨rfl, hq⟩
  go_wp2_with fail
  go_end0
  exact ⟨rfl, hq⟩

set_option maxHeartbeats 400000 in
theorem wrap21 {p : Nat} {x : ByteArray} {w : World} {Q : World → Prop} (h : Calls Try.prog 40 #[.pointer (some ⟨p, 0, none⟩), .string x] w fun e w' => e = .returned (.tuple #[]) ∧ Q w') :
    Calls Try.prog 21 #[.pointer (some ⟨p, 0, none⟩), .string x] w fun e w' => e = .returned (.tuple #[]) ∧ Q w' := by
  go_enter Try.func21, Try.ntmps21
  go_wp2_with fail
  refine h.mono ?_
  rintro e w' ⟨rfl, hq⟩
  go_wp2_with fail
  go_end0
  exact ⟨rfl, hq⟩

set_option maxHeartbeats 400000 in
theorem few_any {w : World} {p : Nat} {fv mv : Value} (h : Two w p fv mv) {a : Option Addr} {n c : Nat} (hf : fv = .slice a n c) : Calls Try.prog 17 #[.pointer (some ⟨p, 0, none⟩)] w fun e w' => e = .returned fv ∧ w = w' := by
  subst hf
  have c0 := h.c0
  go_enter Try.func17, Try.ntmps17
  go_wp2
  go_ret
  exact ⟨rfl, rfl⟩

set_option maxHeartbeats 400000 in
theorem isNil_any {w : World} {p : Nat} {fv : Value} {r : Option Nat} (h : Two w p fv (.map r)) : Calls Try.prog 18 #[.pointer (some ⟨p, 0, none⟩)] w fun e w' => e = .returned (.bool r.isNone) ∧ w = w' := by
  have hq := eqNil50
  have c1 := h.c1
  go_enter Try.func18, Try.ntmps18
  go_wp2
  go_ret
  exact ⟨rfl, rfl⟩

set_option maxHeartbeats 400000 in
theorem len_few {w : World} {p : Nat} {fv : Value} {L : List ByteArray} (h : Few w p fv L) : Calls Try.prog 43 #[.pointer (some ⟨p, 0, none⟩)] w fun e w' => e = .returned (.int .i64 L.length) ∧ w = w' := by
  have hn := neNil50
  have c0 := h.two.c0
  have c1 := h.two.c1
  obtain ⟨a, cap, rfl, hs, hm, -⟩ := h.own.strs
  go_enter Try.func43, Try.ntmps43
  go_wp2
  go_ret
  exact ⟨rfl, rfl⟩

set_option maxHeartbeats 400000 in
theorem len_many {w : World} {p m : Nat} {L : List ByteArray} (h : Many w p m L) : Calls Try.prog 43 #[.pointer (some ⟨p, 0, none⟩)] w fun e w' => e = .returned (.int .i64 L.length) ∧ w = w' := by
  have hn := neNil50
  have c1 := h.two.c1
  have hset := h.set
  go_enter Try.func43, Try.ntmps43
  go_wp2_with (at_len; refine wpList_set_len _ rfl _ rfl m _ rfl hset ?_)
  go_ret
  exact ⟨rfl, rfl⟩

set_option maxHeartbeats 400000 in
theorem wrap37 {p : Nat} {w : World} {n : Int} (h : Calls Try.prog 43 #[.pointer (some ⟨p, 0, none⟩)] w fun e w' => e = .returned (.int .i64 n) ∧ w = w') :
    Calls Try.prog 37 #[.pointer (some ⟨p, 0, none⟩)] w fun e w' => e = .returned (.int .i64 n) ∧ w = w' := by
  go_enter Try.func37, Try.ntmps37
  go_wp2_with fail
  refine h.mono ?_
  rintro e w' ⟨rfl, rfl⟩
  go_wp2_with fail
  go_ret
  exact ⟨rfl, rfl⟩

set_option maxHeartbeats 400000 in
theorem manyLen_any {w : World} {p m : Nat} {L : List ByteArray} (h : Many w p m L) : Calls Try.prog 38 #[.pointer (some ⟨p, 0, none⟩)] w fun e w' => e = .returned (.int .i64 L.length) ∧ w = w' := by
  have c1 := h.two.c1
  have hset := h.set
  go_enter Try.func38, Try.ntmps38
  go_wp2_with (at_len; refine wpList_set_len _ rfl _ rfl m _ rfl hset ?_)
  go_ret
  exact ⟨rfl, rfl⟩

set_option maxHeartbeats 400000 in
theorem manyHas_any {w : World} {p m : Nat} {L : List ByteArray} (h : Many w p m L) (x : ByteArray) (hxs : x.size ≤ maxLen) : Calls Try.prog 39 #[.pointer (some ⟨p, 0, none⟩), .string x] w fun e w' => e = .returned (.bool (inB L x)) ∧ Below w.heap.size w w' := by
  have c1 := h.two.c1
  have hset := h.set
  go_enter Try.func39, Try.ntmps39
  go_wp2_with (at_lookup; refine wpList_set_look _ rfl _ _ rfl m _ rfl hset x rfl hxs ?_)
  go_ret
  exact ⟨rfl, (Below.refl _ _).alloc (Nat.le_refl _) _⟩

/-! ### ZZNewNameSet -/
set_option maxHeartbeats 400000 in
theorem new_few {w : World} {fv : Value} {L : List ByteArray} (h : Own w 0 fv L) (hsh : ∀ s ∈ L, s.size ≤ maxLen) (n c : Nat) : Calls Try.prog 14 #[fv, .slice none n c] w fun e w' => e = .returned (.pointer (some ⟨w.heap.size, 0, none⟩)) ∧ Few w' w.heap.size fv L ∧ Below w.heap.size w w' := by
  have h22 := neNil22
  have hown := h
  obtain ⟨a, cap, rfl, hs, hm, -⟩ := h.strs
  go_enter Try.func14, Try.ntmps14
  go_wp2
  go_ret
  refine ⟨rfl, ⟨heap_alloc_new w _, hown.alloc _, ?_, hsh⟩, (Below.refl _ _).alloc (Nat.le_refl _) _⟩
  intro e
  have := (hown.lt _ e).2
  omega

/-- The world while the maker fills the map. -/
structure Filling (w : World) (M : List ByteArray) (wr : World) : Prop where
  many : Many wr w.heap.size (w.heap.size + 1) M
  below : Below w.heap.size w wr

theorem Filling.start (w : World) : Filling w [] ((w.alloc (.cells #[.slice none 0 0, .map (some (w.heap.size + 1))] 52)).alloc (.map #[] 0)) := by
  refine ⟨⟨?_, ?_⟩, ((Below.refl _ _).alloc (Nat.le_refl _) _).alloc (by simp) _⟩
  · exact (Below.heap_alloc _ _ _ (by simp)).trans (heap_alloc_new w _)
  · have := MapIs.made (w.alloc (.cells #[.slice none 0 0, .map (some (w.heap.size + 1))] 52))
    simpa using this

theorem Filling.step {w wr w1 : World} {M M' : List ByteArray} (h : Filling w M wr) (hm : MapIs w1 (w.heap.size + 1) M') (hg : wr.grownBy w1 (some (w.heap.size + 1))) : Filling w M' w1 :=
  ⟨⟨h.many.two.keep (hg.block _ h.many.two.lt (by simp)), hm⟩, h.below.grown hg h.below.size (fun k hk => by cases hk; omega)⟩

set_option maxHeartbeats 800000 in
theorem new_many {w : World} (x : Addr) (cap : Nat) (ss : List ByteArray) (hl : ss.length ≤ 4096) (hs : Strs w (some x) ss.length ss) (hsh : ∀ s ∈ ss, s.size ≤ maxLen) :
    Calls Try.prog 14 #[.slice none 0 0, .slice (some x) ss.length cap] w fun e w' => e = .returned (.pointer (some ⟨w.heap.size, 0, none⟩)) ∧ Filling w (modelOf ss) w' := by
  have h22 := neNil22
  have hmk := run_make50
  have hst := Filling.start w
  go_enter Try.func14, Try.ntmps14
  go_wp2
  go_loopw [21] (fun i wr => ∃ k : Nat, k ≤ ss.length ∧ i = .int .i64 k ∧ Filling w (modelOf (ss.take k)) wr) (fun i _ => ss.length - (intOf i).toNat)
  case atStart => exact ⟨0, Nat.zero_le _, rfl, hst⟩
  case round =>
    obtain ⟨k, hk, rfl, hf⟩ := hrel
    clear hst
    have d1 := hf.many.two.c1
    have hset := hf.many.set
    by_cases hlt : k < ss.length
    · obtain ⟨b, off, he, hcell⟩ := (hs.ext hf.below).at k hlt
      cases he
      obtain ⟨s, hse⟩ : ∃ s, s = ss.getD k ByteArray.empty := ⟨_, rfl⟩
      have hss : s.size ≤ maxLen := by rw [hse]; exact hsh _ (getD_mem ss k hlt)
      have hstep := modelOf_take ss k hlt
      have hml := modelOf_len (ss.take k)
      have htl := List.length_take_le k ss
      rw [← hse] at hcell hstep
      have HS : Hid (modelOf (ss.take (k + 1)) = addN (modelOf (ss.take k)) s) := hstep
      clear hse hstep hs
      go_wp2_with (at_mapUpdate; refine wpList_set_put _ rfl _ _ _ rfl (w.heap.size + 1) _ rfl hset (by unfold maxLen; omega) s rfl rfl hss ?_; intro w1 hset1 hgrow1)
      go_roundw
      case rel => exact ⟨k + 1, by omega, by go_num, hf.step (by rw [HS.out]; exact hset1) hgrow1⟩
      case measure => simp [intOf]; omega
    · have e : ss.take k = ss := List.take_of_length_le (by omega)
      rw [e] at hf
      clear e hset hs
      go_wp2
      go_ret
      exact ⟨rfl, hf⟩

end Go.Proofs.Qxb6601288a
