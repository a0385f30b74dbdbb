/-
  THE LAW ON add: THE WALK, A SET IN MAP FORM; BOTH GIVEN.
-/
import Derived.Test.Qxb6601288aAddWalk
namespace Go.Proofs.Qxb6601288a
open Go.RowKit Go.Maps

set_option maxHeartbeats 800000 in
theorem add_both (x0 x1 : Addr) (cap0 cap1 : Nat) (s0 s1 : List ByteArray) (x : ByteArray) (w : World) (h0 : Strs w (some x0) s0.length s0) (h1 : Strs w (some x1) s1.length s1) (hl0 : s0.length ≤ 4096) (hl1 : s1.length ≤ 4096) (hlx : x.size ≤ 65536) :
    Calls Try.prog 3 #[.slice (some x0) s0.length cap0, .slice (some x1) s1.length cap1, .string x] w fun e w' => e = .returned (.bool true) ∧ Below w.heap.size w w' := by
  have r22 := neNil22
  have k8 := bytes8_any (some x0) (some x1) _ cap0 _ cap1 s0 s1 x w (by unfold maxLen; omega) (by unfold maxLen; omega) h0 h1
  have k9 := bytesFit_any (some x0) (some x1) _ cap0 _ cap1 s0 s1 x w (by unfold maxLen; omega) (by unfold maxLen; omega) h0 h1
  clear h0 h1
  go_enter Try.func3, Try.ntmps3
  go_wp2_with fail
  refine k8.mono ?_
  rintro e w' ⟨⟨b, rfl⟩, rfl⟩
  clear k8
  cases b
  · go_wp2_with fail; go_ret; exact ⟨rfl, Below.refl _ _⟩
  go_wp2_with fail
  refine k9.mono ?_
  rintro e w' ⟨⟨b, rfl⟩, rfl⟩
  clear k9
  cases b
  · go_wp2_with fail; go_ret; exact ⟨rfl, Below.refl _ _⟩
  go_wp2_with fail
  go_ret
  exact ⟨rfl, Below.refl _ _⟩

theorem short_model {ss : List ByteArray} (h : ∀ s ∈ ss, s.size ≤ maxLen) : ∀ s ∈ modelOf ss, s.size ≤ maxLen := fun s hs => h s (mem_modelOf.1 hs)

set_option maxHeartbeats 2000000 in
theorem add_map (x1 : Addr) (cap1 : Nat) (s1 : List ByteArray) (x : ByteArray) (w : World) (h1 : Strs w (some x1) s1.length s1) (hl1 : s1.length ≤ 4096) (hlx : x.size ≤ 65536) (hsh : ∀ s ∈ s1, s.size ≤ maxLen) :
    Calls Try.prog 3 #[.slice none 0 0, .slice (some x1) s1.length cap1, .string x] w fun e w' => e = .returned (.bool true) ∧ Below w.heap.size w w' := by
  have q22 := eqNil22
  have r22 := neNil22
  have k8 := bytes8_any none (some x1) 0 0 _ cap1 [] s1 x w (by simp) (by unfold maxLen; omega) (strs_nil w none) h1
  have k9 := bytesFit_any none (some x1) 0 0 _ cap1 [] s1 x w (by simp) (by unfold maxLen; omega) (strs_nil w none) h1
  have k10 := distinct_any none 0 0 [] w (by simp) (strs_nil w none)
  go_enter Try.func3, Try.ntmps3
  go_wp2_with fail
  refine k8.mono ?_
  rintro e w' ⟨⟨b, rfl⟩, rfl⟩
  clear k8
  cases b
  · go_wp2_with fail; go_ret; exact ⟨rfl, Below.refl _ _⟩
  go_wp2_with fail
  refine k9.mono ?_
  rintro e w' ⟨⟨b, rfl⟩, rfl⟩
  clear k9
  cases b
  · go_wp2_with fail; go_ret; exact ⟨rfl, Below.refl _ _⟩
  go_wp2_with fail
  refine k10.mono ?_
  rintro e w1 ⟨⟨b, rfl, hbn⟩, hb1⟩
  obtain rfl : b = true := hbn.2 List.nodup_nil
  clear k10 hbn
  have h11 := h1.ext hb1
  clear h1
  go_wp2_with fail
  refine (copy_nil 0 0 w1).mono ?_
  rintro e w' ⟨rfl, rfl⟩
  go_wp2_with fail
  refine (copy_any (some x1) cap1 s1 w1 hl1 h11 (fun e => by cases e)).mono ?_
  rintro e w2 ⟨a2, c2, rfl, hc2⟩
  obtain ⟨y2, rfl⟩ : ∃ y, a2 = some y := by
    cases a2 with
    | none => have := hc2.nil; cases this
    | some y => exact ⟨y, rfl⟩
  go_wp2_with fail
  refine (model_any none (some y2) 0 c2 [] s1 w2 (by simp) hl1 (strs_nil w2 none) hc2.strs).mono ?_
  rintro e w3 ⟨v3, rfl, hown3, hb3⟩
  rw [List.nil_append] at hown3
  have hML := modelOf_len s1
  have hMS := short_model hsh
  have hMN := nodup_modelOf s1
  obtain ⟨M, hM⟩ : ∃ M, M = modelOf s1 := ⟨_, rfl⟩
  rw [← hM] at hown3 hML hMS hMN
  have HM : Hid (M = modelOf s1) := hM
  clear hM
  have hML2 : M.length ≤ 4096 := by omega
  obtain ⟨a3, c3, rfl, hs3, hm3, -⟩ := hown3.strs
  go_wp2_with fail
  refine (has_any a3 M.length c3 M x w3 hm3 hs3).mono ?_
  rintro e w' ⟨rfl, rfl⟩
  have hb12 := below_step hb1 hc2.below
  clear hb1 h11
  cases hin : inB M x
  · have hout := addN_new hin
    clear hin hs3 hm3
    obtain ⟨i0, hi, hz0, hz1, hz2⟩ := info_parts Try.info9
    go_wp2_with (at_builtin; refine wpList_append_own _ rfl _ _ 22 rfl w2.heap.size 9 i0 (.string ByteArray.empty) 1 16 Try.underlying22 hi hz0 hz1 hz2 rfl (by decide) _ _ _ rfl (hown3.alloc _) ⟨w3.heap.size, 0, none⟩ 1 1 [.string x] rfl rfl (cell_one_new _ _ _) (one_string x) (by unfold maxLen; omega) (by omega) (by have := hb3.size; simp; omega) ?_; intro v4 w4 hown4' hgrow4 hnil4; obtain ⟨hown4, hb24⟩ := grown_model hown3 hb3 hown4' hgrow4; clear hown4' hgrow4 hnil4 hown3 hb3; obtain ⟨a4, c4, rfl, hs4, hm4, -⟩ := Own.strs hown4)
    have hs24 := hc2.strs.ext hb24
    have hb14 := below_step hb12 hb24
    clear hb12 hb24 hown4
    refine (copy_nil 0 0 w4).mono ?_
    rintro e w' ⟨rfl, rfl⟩
    have k14 := new_many y2 c2 s1 hl1 hs24 hsh
    rw [← HM.out] at k14
    go_wp2_with fail
    refine k14.mono ?_
    rintro e w6 ⟨rfl, hmany, hb46⟩
    have kadd := wrap15 (add_many (Z := (· < w4.heap.size)) hmany x (by unfold maxLen; omega) (by unfold maxLen; omega) (fun k hk => Nat.lt_of_lt_of_le hk hb46.size) (by omega))
    rw [hout] at kadd
    go_wp2_with fail
    refine kadd.mono ?_
    rintro e w7 ⟨rfl, hmany7, hkeep⟩
    have hb47 := hb46.trans hkeep.below
    have hs47 := hs4.ext hb47
    have k16 := holds_many hmany7 a4 c4 hs47 hm4 rfl (fun _ h => h) (short_snoc hMS (by unfold maxLen; omega))
    rw [show (M ++ [x]).length = M.length + 1 from by simp] at k16
    clear kadd hkeep hmany k14 hb46 hs47 hout
    go_wp2_with fail
    refine k16.mono ?_
    rintro e w8 ⟨rfl, hb8⟩
    have hmany8 := hmany7.ext hb8
    have hbend := below_step hb14 (below_step hb47 hb8)
    have k17 := few_any hmany8.two rfl
    have k18 := isNil_any hmany8.two
    clear k16 hb8 hmany7 hs24 hb14 hb47 hmany8
    go_wp2_with fail
    refine k17.mono ?_
    rintro e w' ⟨rfl, rfl⟩
    go_wp2_with fail
    refine k18.mono ?_
    rintro e w' ⟨rfl, rfl⟩
    clear k17 k18 hc2 hsh hs4 hm4
    go_wp2_with fail
    go_ret
    exact ⟨rfl, hbend⟩
  · have hold := addN_old hin
    clear hin
    have hs23 := hc2.strs.ext hb3
    have hb13 := below_step hb12 hb3
    clear hb12 hb3 hown3
    go_wp2_with fail
    refine (copy_nil 0 0 w3).mono ?_
    rintro e w' ⟨rfl, rfl⟩
    have k14 := new_many y2 c2 s1 hl1 hs23 hsh
    rw [← HM.out] at k14
    go_wp2_with fail
    refine k14.mono ?_
    rintro e w6 ⟨rfl, hmany, hb36⟩
    have kadd := wrap15 (add_many (Z := (· < w3.heap.size)) hmany x (by unfold maxLen; omega) (by unfold maxLen; omega) (fun k hk => Nat.lt_of_lt_of_le hk hb36.size) (by omega))
    rw [hold] at kadd
    go_wp2_with fail
    refine kadd.mono ?_
    rintro e w7 ⟨rfl, hmany7, hkeep⟩
    have hb37 := hb36.trans hkeep.below
    have k16 := holds_many hmany7 a3 c3 (hs3.ext hb37) hm3 rfl (fun _ h => h) hMS
    clear kadd hkeep hmany k14 hb36 hold hs3 hm3
    go_wp2_with fail
    refine k16.mono ?_
    rintro e w8 ⟨rfl, hb8⟩
    have hmany8 := hmany7.ext hb8
    have hbend := below_step hb13 (below_step hb37 hb8)
    have k17 := few_any hmany8.two rfl
    have k18 := isNil_any hmany8.two
    clear k16 hb8 hmany7 hs23 hb13 hb37 hmany8
    go_wp2_with fail
    refine k17.mono ?_
    rintro e w' ⟨rfl, rfl⟩
    go_wp2_with fail
    refine k18.mono ?_
    rintro e w' ⟨rfl, rfl⟩
    clear k17 k18 hc2 hsh
    go_wp2_with fail
    go_ret
    exact ⟨rfl, hbend⟩
end Go.Proofs.Qxb6601288a
