/-
  THE LAW ON remove: THE WALK.
-/
import Derived.Test.Qxb6601288aAddMap
namespace Go.Proofs.Qxb6601288a
open Go.RowKit Go.Maps

set_option maxHeartbeats 400000 in
theorem remove_far (a0 a1 : Option Addr) (cap0 cap1 : Nat) (s0 s1 : List ByteArray) (x : ByteArray) (w : World) (h0 : Strs w a0 s0.length s0) (h1 : Strs w a1 s1.length s1) (hm0 : s0.length ≤ maxLen) (hm1 : s1.length ≤ maxLen)
    (hf : 4096 < s0.length ∨ 4096 < s1.length ∨ 65536 < x.size) :
    Calls Try.prog 4 #[.slice a0 s0.length cap0, .slice a1 s1.length cap1, .string x] w fun e w' => e = .returned (.bool true) ∧ Below w.heap.size w w' := by
  have k19 := bytes19_any a0 a1 _ cap0 _ cap1 s0 s1 x w hm0 hm1 h0 h1
  unfold maxLen at hm0 hm1
  by_cases g0 : 4096 < s0.length
  · go_enter Try.func4, Try.ntmps4
    go_wp2_with fail
    refine k19.mono ?_
    rintro e w' ⟨⟨b, rfl⟩, rfl⟩
    cases b <;> (go_wp2_with fail; go_ret; exact ⟨rfl, Below.refl _ _⟩)
  · by_cases g1 : 4096 < s1.length
    · go_enter Try.func4, Try.ntmps4
      go_wp2_with fail
      refine k19.mono ?_
      rintro e w' ⟨⟨b, rfl⟩, rfl⟩
      cases b <;> (go_wp2_with fail; go_ret; exact ⟨rfl, Below.refl _ _⟩)
    · have g2 : 65536 < x.size := by omega
      clear hf
      go_enter Try.func4, Try.ntmps4
      go_wp2_with fail
      refine k19.mono ?_
      rintro e w' ⟨⟨b, rfl⟩, rfl⟩
      cases b <;> (go_wp2_with fail; go_ret; exact ⟨rfl, Below.refl _ _⟩)

set_option maxHeartbeats 800000 in
theorem remove_both (x0 x1 : Addr) (cap0 cap1 : Nat) (s0 s1 : List ByteArray) (x : ByteArray) (w : World) (h0 : Strs w (some x0) s0.length s0) (h1 : Strs w (some x1) s1.length s1) (hl0 : s0.length ≤ 4096) (hl1 : s1.length ≤ 4096) (hlx : x.size ≤ 65536) :
    Calls Try.prog 4 #[.slice (some x0) s0.length cap0, .slice (some x1) s1.length cap1, .string x] w fun e w' => e = .returned (.bool true) ∧ Below w.heap.size w w' := by
  have r22 := neNil22
  have k19 := bytes19_any (some x0) (some x1) _ cap0 _ cap1 s0 s1 x w (by unfold maxLen; omega) (by unfold maxLen; omega) h0 h1
  have k9 := bytesFit_any (some x0) (some x1) _ cap0 _ cap1 s0 s1 x w (by unfold maxLen; omega) (by unfold maxLen; omega) h0 h1
  clear h0 h1
  go_enter Try.func4, Try.ntmps4
  go_wp2_with fail
  refine k19.mono ?_
  rintro e w' ⟨⟨b, rfl⟩, rfl⟩
  clear k19
  cases b
  · go_wp2_with fail; go_ret; exact ⟨rfl, Below.refl _ _⟩
  go_wp2_with fail
  refine k9.mono ?_
  rintro e w' ⟨⟨b, rfl⟩, rfl⟩
  clear k9
  cases b
  · go_wp2_with fail; go_ret; exact ⟨rfl, Below.refl _ _⟩
  go_wp2_with fail
  go_ret
  exact ⟨rfl, Below.refl _ _⟩


theorem without_same {ss : List ByteArray} {x : ByteArray} (h : x ∉ ss) : without ss x = ss := by
  unfold without
  rw [List.filter_eq_self]
  intro s hs
  have : s ≠ x := fun e => h (e ▸ hs)
  simp [this]

theorem left_len {ss M : List ByteArray} {x : ByteArray} (hn : ss.Nodup) (hx : x ∈ ss) (h : LeftOf ss x M) : M.length = (without ss x).length := by
  have h1 := length_without x hn
  rw [inB_true.2 hx] at h1
  have h2 := h.len
  simp at h1
  omega

theorem left_mem {ss M : List ByteArray} {x : ByteArray} (h : LeftOf ss x M) : ∀ y ∈ without ss x, y ∈ M := fun y hy => (h.mem y).2 (mem_without.1 hy)

theorem none_both {a b : Option Addr} (h : a.isNone = b.isNone) : (a = none ∧ b = none) ∨ ∃ x y, a = some x ∧ b = some y := by
  cases a <;> cases b <;> simp_all

set_option maxHeartbeats 2000000 in
theorem remove_nil (a0 : Option Addr) (cap0 : Nat) (s0 : List ByteArray) (x : ByteArray) (w : World) (h0 : Strs w a0 s0.length s0) (hn0 : a0 = none → s0 = []) (hl0 : s0.length ≤ 4096) (hlx : x.size ≤ 65536) (hsh : ∀ s ∈ s0, s.size ≤ maxLen) :
    Calls Try.prog 4 #[.slice a0 s0.length cap0, .slice none 0 0, .string x] w fun e w' => e = .returned (.bool true) ∧ Below w.heap.size w w' := by
  have q22 := eqNil22
  have r22 := neNil22
  have k8 := bytes19_any a0 none _ cap0 0 0 s0 [] x w (by unfold maxLen; omega) (by simp) h0 (strs_nil w none)
  have k9 := bytesFit_any a0 none _ cap0 0 0 s0 [] x w (by unfold maxLen; omega) (by simp) h0 (strs_nil w none)
  have k10 := distinct_any a0 s0.length cap0 s0 w (by unfold maxLen; omega) h0
  go_enter Try.func4, Try.ntmps4
  go_wp2_with fail
  refine k8.mono ?_
  rintro e w' ⟨⟨b, rfl⟩, rfl⟩
  clear k8
  cases b
  · go_wp2_with fail; go_ret; exact ⟨rfl, Below.refl _ _⟩
  go_wp2_with fail
  refine k9.mono ?_
  rintro e w' ⟨⟨b, rfl⟩, rfl⟩
  clear k9
  cases b
  · go_wp2_with fail; go_ret; exact ⟨rfl, Below.refl _ _⟩
  go_wp2_with fail
  refine k10.mono ?_
  rintro e w1 ⟨⟨b, rfl, hbn⟩, hb1⟩
  clear k10
  cases b
  · go_wp2_with fail; go_ret; exact ⟨rfl, hb1⟩
  have hnd : s0.Nodup := hbn.1 rfl
  clear hbn
  have h01 := h0.ext hb1
  clear h0
  go_wp2_with fail
  refine (copy_any a0 cap0 s0 w1 hl0 h01 hn0).mono ?_
  rintro e w2 ⟨a2, c2, rfl, hc2⟩
  go_wp2_with fail
  refine (copy_nil 0 0 w2).mono ?_
  rintro e w' ⟨rfl, rfl⟩
  go_wp2_with fail
  refine (model_any a2 none c2 0 s0 [] w2 hl0 (by simp) hc2.strs (strs_nil w2 none)).mono ?_
  rintro e w3 ⟨v3, rfl, hown3, hb3⟩
  rw [List.append_nil, modelOf_same hnd] at hown3
  obtain ⟨a3, c3, rfl, hs3, hm3, -⟩ := hown3.strs
  go_wp2_with fail
  refine (has_any a3 s0.length c3 s0 x w3 hm3 hs3).mono ?_
  rintro e w' ⟨rfl, rfl⟩
  have hb13 := below_step (below_step hb1 hc2.below) hb3
  have hs23 := hc2.strs.ext hb3
  have hnil2 : a2 = none → s0 = [] := fun e => by subst e; exact nil_of_none hc2.own
  clear hb1 h01 hn0 hb3 hown3 hc2
  have k20 := without_any a3 c3 s0 x w3 (by omega) hs3
  have hMl := without_len s0 x
  have hMm : ∀ s ∈ without s0 x, s.size ≤ maxLen := fun s hs => hsh s (mem_without.1 hs).1
  cases hin : inB s0 x
  · have hxout := inB_false.1 hin
    rw [without_same hxout] at k20
    clear hin hMl hMm
    go_wp2_with fail
    refine k20.mono ?_
    rintro e w4 ⟨v4, rfl, hown4, hb4⟩
    obtain ⟨a4, c4, rfl, hs4, hm4, -⟩ := hown4.strs
    have hs24 := hs23.ext hb4
    have hb14 := below_step hb13 hb4
    clear k20 hb4 hs23 hb13 hown4 hs3 hm3
    go_wp2_with fail
    refine (copy_any a2 c2 s0 w4 hl0 hs24 hnil2).mono ?_
    rintro e w5 ⟨a5, c5, rfl, hc5⟩
    go_wp2_with fail
    refine (new_few hc5.short hsh 0 0).mono ?_
    rintro e w6 ⟨rfl, hfew, hb6⟩
    have hb46 := below_step hc5.below hb6
    have hs46 := hs4.ext hb46
    have hs56 := hc5.strs.ext hb6
    have hnn := hc5.nil
    clear hc5 hb6 hs4
    go_wp2_with fail
    refine (wrap21 (remove_miss hfew x hxout)).mono ?_
    rintro e w' ⟨rfl, rfl⟩
    go_wp2_with fail
    refine (holds_few hfew a4 c4 hs46 hm4 rfl (fun _ h => h)).mono ?_
    rintro e w7 ⟨rfl, hb7⟩
    have hb47 := below_step hb46 hb7
    have hfew7 := hfew.ext hb7
    have hs27 := hs24.ext hb47
    have hs57 := hs56.ext hb7
    have hbend := below_step hb14 hb47
    have k17 := few_any hfew7.two rfl
    have k18 := isNil_any hfew7.two
    clear hb46 hs46 hb47 hb7 hfew hs24 hs56 hb14 hfew7
    go_wp2_with fail
    refine k17.mono ?_
    rintro e w' ⟨rfl, rfl⟩
    go_wp2_with fail
    refine k18.mono ?_
    rintro e w' ⟨rfl, rfl⟩
    clear k17 k18 hsh hnd hm4
    have hnn2 := none_both hnn
    clear hnn
    rcases hnn2 with ⟨rfl, rfl⟩ | ⟨y5, y2, rfl, rfl⟩
    · obtain rfl := hnil2 rfl
      clear hnil2 hs27 hs57 hxout
      go_wp2_with fail
      refine wp_loop_rounds 1 ?_
      rw [rounds_succ]
      go_wp2
      go_ret
      exact ⟨rfl, hbend⟩
    · clear hnil2
      go_wp2_with fail
      go_loopw [13] (fun i wr => ∃ k : Nat, k ≤ s0.length ∧ i = .int .i64 k ∧ Below w7.heap.size w7 wr) (fun i _ => s0.length - (intOf i).toNat)
      case atStart => exact ⟨0, Nat.zero_le _, rfl, Below.refl _ _⟩
      case round =>
        obtain ⟨k, hk, rfl, hbr⟩ := hrel
        by_cases hlt : k < s0.length
        · obtain ⟨b, off, he, hcell⟩ := (hs27.ext hbr).at k hlt
          obtain ⟨b5, off5, he5, hcell5⟩ := (hs57.ext hbr).at k hlt
          cases he
          cases he5
          obtain ⟨s, hse⟩ : ∃ s, s = s0.getD k ByteArray.empty := ⟨_, rfl⟩
          rw [← hse] at hcell hcell5
          clear hse hs27 hs57
          go_wp2
          go_region
          all_goals go_wp2
          all_goals go_roundw
          case rel => exact ⟨k + 1, by omega, by go_num, hbr.drew⟩
          case measure => simp [intOf]; omega
        · clear hs27 hs57
          go_wp2
          go_ret
          exact ⟨rfl, below_step hbend hbr⟩
  · have hxin := inB_true.1 hin
    clear hin
    obtain ⟨M, hM⟩ : ∃ M, M = without s0 x := ⟨_, rfl⟩
    rw [← hM] at k20 hMl hMm
    have HM : Hid (M = without s0 x) := hM
    clear hM
    have hMl2 : M.length ≤ 4096 := by omega
    go_wp2_with fail
    refine k20.mono ?_
    rintro e w4 ⟨v4, rfl, hown4, hb4⟩
    obtain ⟨a4, c4, rfl, hs4, hm4, -⟩ := hown4.strs
    have hs24 := hs23.ext hb4
    have hb14 := below_step hb13 hb4
    clear k20 hb4 hs23 hb13 hown4 hs3 hm3
    go_wp2_with fail
    refine (copy_any a2 c2 s0 w4 hl0 hs24 hnil2).mono ?_
    rintro e w5 ⟨a5, c5, rfl, hc5⟩
    go_wp2_with fail
    refine (new_few hc5.short hsh 0 0).mono ?_
    rintro e w6 ⟨rfl, hfew, hb6⟩
    have hb46 := below_step hc5.below hb6
    have z1 := hc5.below.size
    have krem := wrap21 (remove_hit (Z := (· < w4.heap.size)) hfew x hxin hnd (by omega) (Nat.not_lt.2 z1) (fun k hk => Nat.not_lt.2 (hc5.own.lt k hk).1))
    go_wp2_with fail
    refine krem.mono ?_
    rintro e w7 ⟨rfl, L, hleft, ⟨fv7, hfew7, -, hnil7⟩, hkeep⟩
    have hb47 := hb46.trans hkeep.below
    have hs47 := hs4.ext hb47
    have hLM : L.length = M.length := by rw [HM.out]; exact left_len hnd hxin hleft
    have k16 := holds_few hfew7 a4 c4 hs47 hm4 hLM (by rw [HM.out]; exact left_mem hleft)
    have HLM : Hid (L.length = M.length) := hLM
    have HN : Hid (L = [] → fv7 = .slice none 0 0) := hnil7
    clear krem hkeep hfew hc5 z1 hb46 hb6 hs47 hleft hLM hnil7 hs4 hs24
    go_wp2_with fail
    refine k16.mono ?_
    rintro e w8 ⟨rfl, hb8⟩
    have hfew8 := hfew7.ext hb8
    have hbend := below_step hb14 (below_step hb47 hb8)
    have k18 := isNil_any hfew8.two
    obtain ⟨a7, c7, hv7, -⟩ := hfew8.own.strs
    have k17 := few_any hfew8.two hv7
    clear k16 hb8 hfew7 hb14 hb47 hfew8 hsh hnd hnil2 hm4 hMm
    by_cases hM0 : M.length = 0
    · have hfe : fv7 = .slice none 0 0 := HN.out (List.length_eq_zero_iff.1 (by rw [HLM.out]; exact hM0))
      subst hfe
      clear hv7 HN HLM
      have hM1 : ((M.length : Int) == 0) = true := by simp [hM0]
      clear hM0
      go_wp2_with fail
      refine k17.mono ?_
      rintro e w' ⟨rfl, rfl⟩
      go_wp2_with fail
      refine k18.mono ?_
      rintro e w' ⟨rfl, rfl⟩
      clear k17 k18
      go_wp2_with fail
      go_ret
      exact ⟨rfl, hbend⟩
    · have hM1 : ((M.length : Int) == 0) = false := by simpa using hM0
      subst hv7
      clear HN HLM hM0
      go_wp2_with fail
      refine k17.mono ?_
      rintro e w' ⟨rfl, rfl⟩
      go_wp2_with fail
      refine k18.mono ?_
      rintro e w' ⟨rfl, rfl⟩
      clear k17 k18
      go_wp2_with fail
      go_ret
      exact ⟨rfl, hbend⟩
end Go.Proofs.Qxb6601288a
