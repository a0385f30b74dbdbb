/-
  THE LAW ON add: THE WALK.
-/
import Derived.Test.Qxb6601288aHolds
namespace Go.Proofs.Qxb6601288a
open Go.RowKit Go.Maps

/-- What copyStrings leaves. -/
structure Copied (w : World) (a : Option Addr) (ss : List ByteArray) (a' : Option Addr) (c' : Nat) (w' : World) : Prop where
  own : Own w' w.heap.size (.slice a' ss.length c') ss
  nil : a'.isNone = a.isNone
  below : Below w.heap.size w w'
  strs : Strs w' a' ss.length ss

theorem copy_any (a : Option Addr) (cap : Nat) (ss : List ByteArray) (w : World) (hl : ss.length ≤ 4096) (hs : Strs w a ss.length ss) (hn : a = none → ss = []) :
    Calls Try.prog 11 #[.slice a ss.length cap] w fun e w' => ∃ a' c', e = .returned (.slice a' ss.length c') ∧ Copied w a ss a' c' w' := by
  cases a with
  | none =>
    obtain rfl := hn rfl
    refine (copy_nil _ _ w).mono ?_
    rintro e w' ⟨rfl, rfl⟩
    exact ⟨none, 0, rfl, World.ownsRow_nil _ _ _ _, rfl, Below.refl _ _, ⟨rfl, .inl rfl⟩⟩
  | some x =>
    refine (copy_some x cap ss w hl hs).mono ?_
    rintro e w' ⟨rfl, ho, hb⟩
    obtain ⟨a2, c2, e2, hs2, -⟩ := Own.strs ho
    cases e2
    exact ⟨_, _, rfl, ho, rfl, hb, hs2⟩

set_option maxHeartbeats 400000 in
theorem add_far (a0 a1 : Option Addr) (cap0 cap1 : Nat) (s0 s1 : List ByteArray) (x : ByteArray) (w : World) (h0 : Strs w a0 s0.length s0) (h1 : Strs w a1 s1.length s1) (hm0 : s0.length ≤ maxLen) (hm1 : s1.length ≤ maxLen)
    (hf : 4096 < s0.length ∨ 4096 < s1.length ∨ 65536 < x.size) :
    Calls Try.prog 3 #[.slice a0 s0.length cap0, .slice a1 s1.length cap1, .string x] w fun e w' => e = .returned (.bool true) ∧ Below w.heap.size w w' := by
  have k8 := bytes8_any a0 a1 _ cap0 _ cap1 s0 s1 x w hm0 hm1 h0 h1
  unfold maxLen at hm0 hm1
  by_cases g0 : 4096 < s0.length
  · go_enter Try.func3, Try.ntmps3
    go_wp2_with fail
    refine k8.mono ?_
    rintro e w' ⟨⟨b, rfl⟩, rfl⟩
    cases b <;> (go_wp2_with fail; go_ret; exact ⟨rfl, Below.refl _ _⟩)
  · by_cases g1 : 4096 < s1.length
    · go_enter Try.func3, Try.ntmps3
      go_wp2_with fail
      refine k8.mono ?_
      rintro e w' ⟨⟨b, rfl⟩, rfl⟩
      cases b <;> (go_wp2_with fail; go_ret; exact ⟨rfl, Below.refl _ _⟩)
    · have g2 : 65536 < x.size := by omega
      clear hf
      go_enter Try.func3, Try.ntmps3
      go_wp2_with fail
      refine k8.mono ?_
      rintro e w' ⟨⟨b, rfl⟩, rfl⟩
      cases b <;> (go_wp2_with fail; go_ret; exact ⟨rfl, Below.refl _ _⟩)

theorem Own.base {w : World} {b : Nat} {v : Value} {ss : List ByteArray} (h : Own w b v ss) : Own w 0 v ss := by
  refine ⟨h.1, ?_⟩
  rcases h.2 with h0 | ⟨g, cap, cur, e, _, r⟩
  · exact .inl h0
  · exact .inr ⟨g, cap, cur, e, Nat.zero_le _, r⟩

theorem Copied.short {w w' : World} {a a' : Option Addr} {ss : List ByteArray} {c' : Nat} (h : Copied w a ss a' c' w') : Own w' 0 (.slice a' ss.length c') ss := Own.base h.own

theorem below_step {w w1 w2 : World} (h : Below w.heap.size w w1) (h2 : Below w1.heap.size w1 w2) : Below w.heap.size w w2 := h.trans (h2.mono h.size)

theorem nil_of_none {w : World} {b n c : Nat} {ss : List ByteArray} (h : Own w b (.slice none n c) ss) : ss = [] := by
  rcases h.2 with ⟨e, h0⟩ | ⟨g, cap, cur, e, _⟩
  · exact List.length_eq_zero_iff.1 h0
  · cases e

theorem strs_nil (w : World) (a : Option Addr) : Strs w a ([] : List ByteArray).length [] := ⟨rfl, .inl rfl⟩

theorem grown_model {w2 w3 w4 : World} {v v4 : Value} {o : Obj} {ss : List ByteArray} {x : ByteArray} (hown : Own w3 w2.heap.size v ss) (hb : Below w2.heap.size w2 w3) (hown4 : w4.ownsRow w2.heap.size 9 1 v4 (ss.length + 1) (ss.map Value.string ++ [Value.string x])) (hg : (w3.alloc o).grownBy w4 v.ownBlock) :
    Own w4 w2.heap.size v4 (ss ++ [x]) ∧ Below w2.heap.size w2 w4 :=
  ⟨by unfold Own; simpa using hown4, below_append hb (Nat.le_refl _) hown hg⟩

theorem getD_snoc (ss : List ByteArray) (x : ByteArray) {k : Nat} (h : k < ss.length) : (ss ++ [x]).getD k ByteArray.empty = ss.getD k ByteArray.empty := by
  simp [List.getD, List.getElem?_append_left h]

set_option maxHeartbeats 2000000 in
theorem add_nil (a0 : Option Addr) (cap0 : Nat) (s0 : List ByteArray) (x : ByteArray) (w : World) (h0 : Strs w a0 s0.length s0) (hn0 : a0 = none → s0 = []) (hl0 : s0.length ≤ 4096) (hlx : x.size ≤ 65536) (hsh : ∀ s ∈ s0, s.size ≤ maxLen) :
    Calls Try.prog 3 #[.slice a0 s0.length cap0, .slice none 0 0, .string x] w fun e w' => e = .returned (.bool true) ∧ Below w.heap.size w w' := by
  have q22 := eqNil22
  have r22 := neNil22
  have k8 := bytes8_any a0 none _ cap0 0 0 s0 [] x w (by unfold maxLen; omega) (by simp) h0 (strs_nil w none)
  have k9 := bytesFit_any a0 none _ cap0 0 0 s0 [] x w (by unfold maxLen; omega) (by simp) h0 (strs_nil w none)
  have k10 := distinct_any a0 s0.length cap0 s0 w (by unfold maxLen; omega) h0
  go_enter Try.func3, Try.ntmps3
  go_wp2_with fail
  refine k8.mono ?_
  rintro e w' ⟨⟨b, rfl⟩, rfl⟩
  clear k8
  cases b
  · go_wp2_with fail; go_ret; exact ⟨rfl, Below.refl _ _⟩
  go_wp2_with fail
  refine k9.mono ?_
  rintro e w' ⟨⟨b, rfl⟩, rfl⟩
  clear k9
  cases b
  · go_wp2_with fail; go_ret; exact ⟨rfl, Below.refl _ _⟩
  go_wp2_with fail
  refine k10.mono ?_
  rintro e w1 ⟨⟨b, rfl, hbn⟩, hb1⟩
  clear k10
  cases b
  · go_wp2_with fail; go_ret; exact ⟨rfl, hb1⟩
  have hnd : s0.Nodup := hbn.1 rfl
  clear hbn
  have h01 := h0.ext hb1
  clear h0
  go_wp2_with fail
  refine (copy_any a0 cap0 s0 w1 hl0 h01 hn0).mono ?_
  rintro e w2 ⟨a2, c2, rfl, hc2⟩
  go_wp2_with fail
  refine (copy_nil 0 0 w2).mono ?_
  rintro e w' ⟨rfl, rfl⟩
  go_wp2_with fail
  refine (model_any a2 none c2 0 s0 [] w2 hl0 (by simp) hc2.strs (strs_nil w2 none)).mono ?_
  rintro e w3 ⟨v3, rfl, hown3, hb3⟩
  rw [List.append_nil, modelOf_same hnd] at hown3
  obtain ⟨a3, c3, rfl, hs3, hm3, -⟩ := hown3.strs
  go_wp2_with fail
  refine (has_any a3 s0.length c3 s0 x w3 hm3 hs3).mono ?_
  rintro e w' ⟨rfl, rfl⟩
  have hb12 := below_step hb1 hc2.below
  have hl3 : s0.length ≤ maxLen := hm3
  clear hb1 h01 hn0
  cases hin : inB s0 x
  · have hxout := inB_false.1 hin
    clear hin hs3 hm3
    obtain ⟨i0, hi, hz0, hz1, hz2⟩ := info_parts Try.info9
    by_cases hr : s0.length < 8
    · go_wp2_with (at_builtin; refine wpList_append_own _ rfl _ _ 22 rfl w2.heap.size 9 i0 (.string ByteArray.empty) 1 16 Try.underlying22 hi hz0 hz1 hz2 rfl (by decide) _ _ _ rfl (hown3.alloc _) ⟨w3.heap.size, 0, none⟩ 1 1 [.string x] rfl rfl (cell_one_new _ _ _) (one_string x) (by unfold maxLen; omega) (by omega) (by have := hb3.size; simp; omega) ?_; intro v4 w4 hown4' hgrow4 hnil4; obtain ⟨hown4, hb24⟩ := grown_model hown3 hb3 hown4' hgrow4; clear hown4' hgrow4 hnil4 hown3 hb3; obtain ⟨a4, c4, rfl, hs4, hm4, -⟩ := Own.strs hown4)
      have hs24 := hc2.strs.ext hb24
      have hb14 := below_step hb12 hb24
      clear hb12 hb24 hown4 hnd
      refine (copy_any a2 c2 s0 w4 hl0 hs24 (fun e => ?_)).mono ?_
      · subst e; exact nil_of_none hc2.own
      rintro e w5 ⟨a5, c5, rfl, hc5⟩
      go_wp2_with fail
      refine (new_few hc5.short hsh 0 0).mono ?_
      rintro e w6 ⟨rfl, hfew, hb6⟩
      have hb46 := below_step hc5.below hb6
      have z1 := hc5.below.size
      have z2 := hb6.size
      have kadd := wrap15 (add_room (Z := (· < w4.heap.size)) hfew x hxout (by unfold maxLen; omega) hr (fun k hk => Nat.lt_of_lt_of_le hk hb46.size) (Nat.not_lt.2 z1) (fun k hk => Nat.not_lt.2 (hc5.own.lt k hk).1))
      go_wp2_with fail
      refine kadd.mono ?_
      rintro e w7 ⟨rfl, ⟨fv7, hfew7, -⟩, hkeep⟩
      have hb47 := hb46.trans hkeep.below
      have hs47 := hs4.ext hb47
      have k16 := holds_few hfew7 a4 c4 hs47 hm4 rfl (fun _ h => h)
      rw [show (s0 ++ [x]).length = s0.length + 1 from by simp] at k16
      clear kadd hkeep hfew hc5 z1 z2 hb46 hb6 hs47
      go_wp2_with fail
      refine k16.mono ?_
      rintro e w8 ⟨rfl, hb8⟩
      have hb48 := below_step hb47 hb8
      have hfew8 := hfew7.ext hb8
      have hs28 := hs24.ext hb48
      have hbend := below_step hb14 hb48
      obtain ⟨a7, c7, hv7, hs78, -⟩ := hfew8.own.strs
      have k17 := few_any hfew8.two hv7
      have k18 := isNil_any hfew8.two
      rw [show (s0 ++ [x]).length = s0.length + 1 from by simp] at hv7
      subst hv7
      clear k16 hb8 hb48 hfew7 hs24 hb14 hb47 hfew8
      go_wp2_with fail
      refine k17.mono ?_
      rintro e w' ⟨rfl, rfl⟩
      go_wp2_with fail
      refine k18.mono ?_
      rintro e w' ⟨rfl, rfl⟩
      clear k17 k18 hc2 hsh hs4 hm4
      go_wp2_with fail
      go_loopw [13] (fun i wr => ∃ k : Nat, k ≤ s0.length ∧ i = .int .i64 k ∧ Below w8.heap.size w8 wr) (fun i _ => s0.length - (intOf i).toNat)
      case atStart => exact ⟨0, Nat.zero_le _, rfl, Below.refl _ _⟩
      case round =>
        obtain ⟨k, hk, rfl, hbr⟩ := hrel
        by_cases hlt : k < s0.length
        · obtain ⟨b, off, rfl, hcell⟩ := (hs28.ext hbr).at k hlt
          obtain ⟨b5, off5, rfl, hcell5⟩ := (hs78.ext hbr).at k (by simp; omega)
          obtain ⟨s, hse⟩ : ∃ s, s = s0.getD k ByteArray.empty := ⟨_, rfl⟩
          rw [getD_snoc s0 x hlt] at hcell5
          rw [← hse] at hcell hcell5
          clear hse hs28 hs78
          go_wp2
          go_region
          all_goals go_wp2
          all_goals go_roundw
          case rel => exact ⟨k + 1, by omega, by go_num, hbr.drew⟩
          case measure => simp [intOf]; omega
        · clear hs28 hs78
          go_wp2
          go_ret
          exact ⟨rfl, below_step hbend hbr⟩
    · have hr8 : 8 ≤ s0.length := by omega
      clear hr
      go_wp2_with (at_builtin; refine wpList_append_own _ rfl _ _ 22 rfl w2.heap.size 9 i0 (.string ByteArray.empty) 1 16 Try.underlying22 hi hz0 hz1 hz2 rfl (by decide) _ _ _ rfl (hown3.alloc _) ⟨w3.heap.size, 0, none⟩ 1 1 [.string x] rfl rfl (cell_one_new _ _ _) (one_string x) (by unfold maxLen; omega) (by omega) (by have := hb3.size; simp; omega) ?_; intro v4 w4 hown4' hgrow4 hnil4; obtain ⟨hown4, hb24⟩ := grown_model hown3 hb3 hown4' hgrow4; clear hown4' hgrow4 hnil4 hown3 hb3; obtain ⟨a4, c4, rfl, hs4, hm4, -⟩ := Own.strs hown4)
      have hs24 := hc2.strs.ext hb24
      have hb14 := below_step hb12 hb24
      clear hb12 hb24 hown4
      refine (copy_any a2 c2 s0 w4 hl0 hs24 (fun e => ?_)).mono ?_
      · subst e; exact nil_of_none hc2.own
      rintro e w5 ⟨a5, c5, rfl, hc5⟩
      go_wp2_with fail
      refine (new_few hc5.short hsh 0 0).mono ?_
      rintro e w6 ⟨rfl, hfew, hb6⟩
      have hb46 := below_step hc5.below hb6
      have z1 := hc5.below.size
      have z2 := hb6.size
      have kadd := wrap15 (add_full (Z := (· < w4.heap.size)) hfew x hxout (by unfold maxLen; omega) hr8 (by omega) hnd (fun k hk => Nat.lt_of_lt_of_le hk hb46.size) (Nat.not_lt.2 z1))
      go_wp2_with fail
      refine kadd.mono ?_
      rintro e w7 ⟨rfl, ⟨m7, hmany7, -⟩, hkeep⟩
      have hb47 := hb46.trans hkeep.below
      have hs47 := hs4.ext hb47
      have k16 := holds_many hmany7 a4 c4 hs47 hm4 rfl (fun _ h => h) (short_snoc hsh (by unfold maxLen; omega))
      rw [show (s0 ++ [x]).length = s0.length + 1 from by simp] at k16
      clear kadd hkeep hfew hc5 z1 z2 hb46 hb6 hs47
      go_wp2_with fail
      refine k16.mono ?_
      rintro e w8 ⟨rfl, hb8⟩
      have hb48 := below_step hb47 hb8
      have hmany8 := hmany7.ext hb8
      have hbend := below_step hb14 hb48
      have k17 := few_any hmany8.two rfl
      have k18 := isNil_any hmany8.two
      clear k16 hb8 hb48 hmany7 hs24 hb14 hb47 hmany8
      go_wp2_with fail
      refine k17.mono ?_
      rintro e w' ⟨rfl, rfl⟩
      go_wp2_with fail
      refine k18.mono ?_
      rintro e w' ⟨rfl, rfl⟩
      clear k17 k18 hc2 hsh hs4 hm4
      go_wp2_with fail
      all_goals
        go_ret
        exact ⟨rfl, hbend⟩
  · have hb13 := below_step hb12 hb3
    have hs23 := hc2.strs.ext hb3
    clear hb3
    have hxin := inB_true.1 hin
    clear hin
    go_wp2_with fail
    refine (copy_any a2 c2 s0 w3 hl0 hs23 (fun e => ?_)).mono ?_
    · subst e; exact nil_of_none hc2.own
    rintro e w5 ⟨a5, c5, rfl, hc5⟩
    go_wp2_with fail
    refine (new_few hc5.short hsh 0 0).mono ?_
    rintro e w6 ⟨rfl, hfew, hb6⟩
    go_wp2_with fail
    refine (wrap15 (add_in hfew x hxin)).mono ?_
    rintro e w' ⟨rfl, rfl⟩
    have hb36 := below_step hc5.below hb6
    have hs36 := hs3.ext hb36
    go_wp2_with fail
    refine (holds_few hfew a3 c3 hs36 hl3 rfl (fun _ h => h)).mono ?_
    rintro e w7 ⟨rfl, hb7⟩
    have hb37 := below_step hb36 hb7
    have hfew7 := hfew.ext hb7
    have hs27 := hs23.ext hb37
    have hs57 := (hc5.strs.ext hb6).ext hb7
    have hbend := below_step hb13 hb37
    clear hb36 hs36 hb37 hb7 hfew hs23 hb6 hc5 hb13
    go_wp2_with fail
    refine (few_any hfew7.two rfl).mono ?_
    rintro e w' ⟨rfl, rfl⟩
    go_wp2_with fail
    refine (isNil_any hfew7.two).mono ?_
    rintro e w' ⟨rfl, rfl⟩
    go_wp2_with fail
    all_goals
      go_loopw [13] (fun i wr => ∃ k : Nat, k ≤ s0.length ∧ i = .int .i64 k ∧ Below w7.heap.size w7 wr) (fun i _ => s0.length - (intOf i).toNat)
      case atStart => exact ⟨0, Nat.zero_le _, rfl, Below.refl _ _⟩
      case round =>
        obtain ⟨k, hk, rfl, hbr⟩ := hrel
        by_cases hlt : k < s0.length
        · obtain ⟨b, off, rfl, hcell⟩ := (hs27.ext hbr).at k hlt
          obtain ⟨b5, off5, rfl, hcell5⟩ := (hs57.ext hbr).at k hlt
          obtain ⟨s, hse⟩ : ∃ s, s = s0.getD k ByteArray.empty := ⟨_, rfl⟩
          rw [← hse] at hcell hcell5
          clear hse hs27 hs57 hfew7 hs3 hown3 hc2 hnd hsh
          go_wp2
          go_region
          all_goals go_wp2
          all_goals go_roundw
          case rel => exact ⟨k + 1, by omega, by go_num, hbr.drew⟩
          case measure => simp [intOf]; omega
        · clear hs27 hs57 hfew7 hs3 hown3 hc2 hnd hsh
          go_wp2
          go_ret
          exact ⟨rfl, below_step hbend hbr⟩
end Go.Proofs.Qxb6601288a
