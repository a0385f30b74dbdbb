/-
  THE LAW ON remove: THE WALK, A SET IN MAP FORM.
-/
import Derived.Test.Qxb6601288aRemWalk
namespace Go.Proofs.Qxb6601288a
open Go.RowKit Go.Maps

theorem gone_in {s1 Q M : List ByteArray} {x : ByteArray} (hQ : Q = modelOf s1) (hM : M = without Q x) (h0 : ¬ s1.length = 0) (h1 : M = []) : inB Q x = true := by
  cases h : inB Q x
  · exfalso
    rw [without_same (inB_false.1 h)] at hM
    obtain ⟨s, hs⟩ : ∃ s, s ∈ s1 := List.exists_mem_of_length_pos (by omega)
    have : s ∈ M := by rw [hM, hQ]; exact mem_modelOf.2 hs
    rw [h1] at this
    simp at this
  · rfl

theorem left_in {s1 Q M : List ByteArray} {x : ByteArray} (hQ : Q = modelOf s1) (hM : M = without Q x) (h1 : ¬ M = []) : ¬ s1 = [] := by
  rintro rfl
  apply h1
  rw [hM, hQ]
  rfl

set_option maxHeartbeats 2000000 in
theorem remove_map (x1 : Addr) (cap1 : Nat) (s1 : List ByteArray) (x : ByteArray) (w : World) (h1 : Strs w (some x1) s1.length s1) (hl1 : s1.length ≤ 4096) (hlx : x.size ≤ 65536) (hsh : ∀ s ∈ s1, s.size ≤ maxLen) :
    Calls Try.prog 4 #[.slice none 0 0, .slice (some x1) s1.length cap1, .string x] w fun e w' => e = .returned (.bool true) ∧ Below w.heap.size w w' := by
  have q22 := eqNil22
  have r22 := neNil22
  have k8 := bytes19_any none (some x1) 0 0 _ cap1 [] s1 x w (by simp) (by unfold maxLen; omega) (strs_nil w none) h1
  have k9 := bytesFit_any none (some x1) 0 0 _ cap1 [] s1 x w (by simp) (by unfold maxLen; omega) (strs_nil w none) h1
  have k10 := distinct_any none 0 0 [] w (by simp) (strs_nil w none)
  go_enter Try.func4, Try.ntmps4
  go_wp2_with fail
  refine k8.mono ?_
  rintro e w' ⟨⟨b, rfl⟩, rfl⟩
  clear k8
  cases b
  · go_wp2_with fail; go_ret; exact ⟨rfl, Below.refl _ _⟩
  go_wp2_with fail
  refine k9.mono ?_
  rintro e w' ⟨⟨b, rfl⟩, rfl⟩
  clear k9
  cases b
  · go_wp2_with fail; go_ret; exact ⟨rfl, Below.refl _ _⟩
  go_wp2_with fail
  refine k10.mono ?_
  rintro e w1 ⟨⟨b, rfl, hbn⟩, hb1⟩
  obtain rfl : b = true := hbn.2 List.nodup_nil
  clear k10 hbn
  have h11 := h1.ext hb1
  clear h1
  go_wp2_with fail
  refine (copy_nil 0 0 w1).mono ?_
  rintro e w' ⟨rfl, rfl⟩
  go_wp2_with fail
  refine (copy_any (some x1) cap1 s1 w1 hl1 h11 (fun e => by cases e)).mono ?_
  rintro e w2 ⟨a2, c2, rfl, hc2⟩
  obtain ⟨y2, rfl⟩ : ∃ y, a2 = some y := by
    cases a2 with
    | none => have := hc2.nil; cases this
    | some y => exact ⟨y, rfl⟩
  go_wp2_with fail
  refine (model_any none (some y2) 0 c2 [] s1 w2 (by simp) hl1 (strs_nil w2 none) hc2.strs).mono ?_
  rintro e w3 ⟨v3, rfl, hown3, hb3⟩
  rw [List.nil_append] at hown3
  have hQL := modelOf_len s1
  have hQS := short_model hsh
  obtain ⟨Q, hQ⟩ : ∃ Q, Q = modelOf s1 := ⟨_, rfl⟩
  rw [← hQ] at hown3 hQL hQS
  have HQ : Hid (Q = modelOf s1) := hQ
  clear hQ
  have hQL2 : Q.length ≤ 4096 := by omega
  obtain ⟨a3, c3, rfl, hs3, hm3, -⟩ := hown3.strs
  go_wp2_with fail
  refine (has_any a3 Q.length c3 Q x w3 hm3 hs3).mono ?_
  rintro e w' ⟨rfl, rfl⟩
  have hb13 := below_step (below_step hb1 hc2.below) hb3
  have hs23 := hc2.strs.ext hb3
  have k20 := without_any a3 c3 Q x w3 (by omega) hs3
  have hML := without_len Q x
  have hMS : ∀ s ∈ without Q x, s.size ≤ maxLen := fun s hs => hQS s (mem_without.1 hs).1
  clear hb1 h11 hb3 hown3 hc2 hs3 hm3
  obtain ⟨M, hM⟩ : ∃ M, M = without Q x := ⟨_, rfl⟩
  rw [← hM] at k20 hML hMS
  have HM : Hid (M = without Q x) := hM
  clear hM
  have hML2 : M.length ≤ 4096 := by omega
  go_wp2_with fail
  refine k20.mono ?_
  rintro e w4 ⟨v4, rfl, hown4, hb4⟩
  obtain ⟨a4, c4, rfl, hs4, hm4, -⟩ := hown4.strs
  have hs24 := hs23.ext hb4
  have hb14 := below_step hb13 hb4
  clear k20 hb4 hs23 hb13 hown4
  go_wp2_with fail
  refine (copy_nil 0 0 w4).mono ?_
  rintro e w' ⟨rfl, rfl⟩
  have k14 := new_many y2 c2 s1 hl1 hs24 hsh
  rw [← HQ.out] at k14
  go_wp2_with fail
  refine k14.mono ?_
  rintro e w6 ⟨rfl, hmany, hb46⟩
  clear k14 hs24 hQS
  by_cases hM0 : M = []
  · have krem := wrap21 (remove_last (Z := (· < w4.heap.size)) hmany x (by unfold maxLen; omega) (fun k hk => Nat.lt_of_lt_of_le hk hb46.size) (by omega) (by omega) (by rw [← HM.out]; exact hM0))
    have HM0 : Hid (M = []) := hM0
    clear hM0
    go_wp2_with fail
    refine krem.mono ?_
    rintro e w7 ⟨rfl, hfew7, hkeep⟩
    have hb47 := hb46.trans hkeep.below
    have k16 := holds_few hfew7 a4 c4 (hs4.ext hb47) hm4 (by rw [HM0.out]) (by rw [HM0.out]; simp)
    clear krem hkeep hmany hb46 hs4
    go_wp2_with fail
    refine k16.mono ?_
    rintro e w8 ⟨rfl, hb8⟩
    have hfew8 := hfew7.ext hb8
    have hbend := below_step hb14 (below_step hb47 hb8)
    have k17 := few_any hfew8.two rfl
    have k18 := isNil_any hfew8.two
    clear k16 hb8 hfew7 hb14 hb47 hfew8 hMS hm4
    go_wp2_with fail
    refine k17.mono ?_
    rintro e w' ⟨rfl, rfl⟩
    go_wp2_with fail
    refine k18.mono ?_
    rintro e w' ⟨rfl, rfl⟩
    clear k17 k18 hsh
    have hM1 : ((M.length : Int) == 0) = true := by simp [HM0.out]
    by_cases hs0 : s1.length = 0
    · have hS1 : ((s1.length : Int) == 0) = true := by rw [hs0]; rfl
      clear hs0
      go_wp2_with fail
      go_ret
      exact ⟨rfl, hbend⟩
    · have hS1 : ((s1.length : Int) == 0) = false := by simpa using hs0
      have hin : inB Q x = true := gone_in HQ.out HM.out hs0 HM0.out
      clear hs0
      go_wp2_with fail
      go_ret
      exact ⟨rfl, hbend⟩
  · have krem := wrap21 (remove_many (Z := (· < w4.heap.size)) hmany x (by unfold maxLen; omega) (by unfold maxLen; omega) (fun k hk => Nat.lt_of_lt_of_le hk hb46.size) (by omega) (by rw [← HM.out]; exact hM0))
    rw [← HM.out] at krem
    go_wp2_with fail
    refine krem.mono ?_
    rintro e w7 ⟨rfl, hmany7, hkeep⟩
    have hb47 := hb46.trans hkeep.below
    have k16 := holds_many hmany7 a4 c4 (hs4.ext hb47) hm4 rfl (fun _ h => h) hMS
    clear krem hkeep hmany hb46 hs4
    go_wp2_with fail
    refine k16.mono ?_
    rintro e w8 ⟨rfl, hb8⟩
    have hmany8 := hmany7.ext hb8
    have hbend := below_step hb14 (below_step hb47 hb8)
    have k17 := few_any hmany8.two rfl
    have k18 := isNil_any hmany8.two
    clear k16 hb8 hmany7 hb14 hb47 hmany8 hMS hm4
    go_wp2_with fail
    refine k17.mono ?_
    rintro e w' ⟨rfl, rfl⟩
    go_wp2_with fail
    refine k18.mono ?_
    rintro e w' ⟨rfl, rfl⟩
    clear k17 k18 hsh
    have hM1 : ((M.length : Int) == 0) = false := by simpa using hM0
    have hS1 : ((s1.length : Int) == 0) = false := by simpa using left_in HQ.out HM.out hM0
    clear hM0
    cases hin : inB Q x
    · go_wp2_with fail
      refine wp_loop_rounds 1 ?_
      rw [rounds_succ]
      go_wp2
      go_ret
      exact ⟨rfl, hbend⟩
    · go_wp2_with fail
      go_ret
      exact ⟨rfl, hbend⟩
end Go.Proofs.Qxb6601288a
