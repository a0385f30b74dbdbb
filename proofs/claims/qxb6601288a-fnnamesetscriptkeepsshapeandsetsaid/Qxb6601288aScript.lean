/-
  THE LAW ON A SCRIPT OF adds AND removes: THE WALK.
-/
import Derived.Test.Qxb6601288aGood
import Derived.Test.Qxb6601288aAddWalk
namespace Go.Proofs.Qxb6601288a
open Go.RowKit Go.Maps

/-- The blocks that the set keeps out of: those below B, and the model's own. -/
def Zof (B : Nat) (v : Value) (k : Nat) : Prop := k < B ∨ v.ownBlock = some k

/-- What holds at the head of each round: the model v lists M, the set at block B holds just those; nothing below B has turned. -/
structure Step (B : Nat) (w0 : World) (k : Nat) (v : Value) (wr : World) (L M : List ByteArray) : Prop where
  own : Own wr B v M
  good : Good (Zof B v) wr B L
  below : Below B w0 wr
  same : ∀ y, y ∈ L ↔ y ∈ M
  nodup : M.Nodup
  len : M.length ≤ k
  short : ∀ s ∈ M, s.size ≤ maxLen
  size : B ≤ wr.heap.size

theorem Step.z {B : Nat} {w0 : World} {k : Nat} {v : Value} {wr : World} {L M : List ByteArray} (h : Step B w0 k v wr L M) : ∀ j, Zof B v j → j < wr.heap.size := by
  rintro j (hj | hj)
  · have := h.size; omega
  · exact (h.own.lt j hj).2

theorem Step.llen {B : Nat} {w0 : World} {k : Nat} {v : Value} {wr : World} {L M : List ByteArray} (h : Step B w0 k v wr L M) : L.length ≤ k := by
  have := same_len h.good.nodup h.nodup h.same
  have := h.len
  omega

/-- The set has been written, the model has not. -/
theorem keep_own {B : Nat} {v : Value} {wr w1 : World} {M : List ByteArray} (h : Own wr B v M) (hk : Keep (Zof B v) wr w1) : Own w1 B v M :=
  h.keep fun k e => hk.block k (.inr e)

theorem keep_below {B : Nat} {v : Value} {w0 wr w1 : World} (h : Below B w0 wr) (hk : Keep (Zof B v) wr w1) : Below B w0 w1 :=
  h.trans (hk.mono fun _ h => .inl h).below

theorem Step.old {B : Nat} {w0 : World} {k : Nat} {v : Value} {wr w1 : World} {L M : List ByteArray} {x : ByteArray} (h : Step B w0 k v wr L M) (hg : Good (Zof B v) w1 B (addN L x)) (hk : Keep (Zof B v) wr w1) (hin : inB M x = true) : Step B w0 (k + 1) v w1 (addN L x) M :=
  ⟨keep_own h.own hk, hg, keep_below h.below hk, fun y => by rw [mem_addN, h.same y]; exact ⟨fun h => h.elim id (fun e => e ▸ inB_true.1 hin), .inl⟩, h.nodup, Nat.le_succ_of_le h.len, h.short, Nat.le_trans h.size hk.size⟩

theorem Step.new {B : Nat} {w0 : World} {k : Nat} {v v2 : Value} {wr w1 w2 : World} {o : Obj} {L M : List ByteArray} {x : ByteArray} (h : Step B w0 k v wr L M) (hg : Good (Zof B v) w1 B (addN L x)) (hk : Keep (Zof B v) wr w1) (hin : inB M x = false) (hxs : x.size ≤ maxLen)
    (hown : w2.ownsRow B 9 1 v2 (M.length + 1) (M.map Value.string ++ [Value.string x])) (hgr : (w1.alloc o).grownBy w2 v.ownBlock) (hloc : v2.ownBlock = v.ownBlock ∨ v2.ownBlock = some (w1.alloc o).heap.size) : Step B w0 (k + 1) v2 w2 (addN L x) (M ++ [x]) := by
  have hs1 : B ≤ w1.heap.size := Nat.le_trans h.size hk.size
  have h1 := keep_own h.own hk
  refine ⟨by unfold Own; simpa using hown, ?_, ?_, fun y => by rw [mem_addN, h.same y]; simp, ?_, by have := h.len; simp; omega, short_snoc h.short hxs, ?_⟩
  · refine hg.move (fun j hj hz => ?_) (fun j hj hz => ?_)
    · rw [hgr.block j (by simp; omega) (fun e => hz (.inr e.symm)), Below.heap_alloc w1 o j hj]
    · rintro (h2 | h2)
      · exact hz (.inl h2)
      · rcases hloc with e | e
        · exact hz (.inr (e ▸ h2))
        · rw [h2] at e; simp at e; omega
  · exact ((keep_below h.below hk).alloc hs1 o).grown hgr (by simp; omega) (fun j hj => (h1.lt j hj).1)
  · have := nodup_addN (x := x) h.nodup
    rwa [addN_new hin] at this
  · have := hgr.size
    simp at this
    omega

theorem Step.cut {B : Nat} {w0 : World} {k : Nat} {v v2 : Value} {wr w1 w2 : World} {L L' M : List ByteArray} {x : ByteArray} (h : Step B w0 k v wr L M) (hg : Good (Zof B v) w1 B L') (hm : ∀ y, y ∈ L' ↔ y ∈ L ∧ y ≠ x) (hk : Keep (Zof B v) wr w1)
    (hown : Own w2 w1.heap.size v2 (without M x)) (hb : Below w1.heap.size w1 w2) : Step B w0 (k + 1) v2 w2 L' (without M x) := by
  have hs1 : B ≤ w1.heap.size := Nat.le_trans h.size hk.size
  refine ⟨?_, ?_, (keep_below h.below hk).trans (hb.mono hs1), fun y => by rw [hm y, mem_without, h.same y], nodup_without h.nodup, by have := without_len M x; have := h.len; omega, fun s hs => h.short s (mem_without.1 hs).1, Nat.le_trans hs1 hb.size⟩
  · refine ⟨hown.1, ?_⟩
    rcases hown.2 with h0 | ⟨g, cap, cur, e, hgb, r⟩
    · exact .inl h0
    · exact .inr ⟨g, cap, cur, e, by omega, r⟩
  · refine hg.move (fun j hj _ => hb.block j hj) (fun j hj hz => ?_)
    rintro (h2 | h2)
    · exact hz (.inl h2)
    · have := (hown.lt j h2).1
      omega

theorem Step.ext {B : Nat} {w0 : World} {k : Nat} {v : Value} {wr w1 : World} {L M : List ByteArray} (h : Step B w0 k v wr L M) (hb : Below wr.heap.size wr w1) : Step B w0 k v w1 L M :=
  ⟨h.own.keep fun j e => hb.block j (h.own.lt j e).2, h.good.ext hb, h.below.trans (hb.mono h.size), h.same, h.nodup, h.len, h.short, Nat.le_trans h.size hb.size⟩

theorem step_shape {B : Nat} {w0 : World} {k : Nat} {v : Value} {wr : World} {L M : List ByteArray} (h : Step B w0 k v wr L M) (hk : k ≤ 16384) :
    Calls Try.prog 25 #[.pointer (some ⟨B, 0, none⟩)] wr fun e w' => e = .returned (.bool true) ∧ Step B w0 k v w' L M := by
  refine (good_shape h.good (Nat.le_trans h.llen hk)).mono ?_
  rintro e w' ⟨rfl, hb⟩
  exact ⟨rfl, h.ext hb⟩

theorem step_holds {B : Nat} {w0 : World} {k : Nat} {a : Option Addr} {c : Nat} {wr : World} {L M : List ByteArray} (h : Step B w0 k (.slice a M.length c) wr L M) :
    Calls Try.prog 16 #[.pointer (some ⟨B, 0, none⟩), .slice a M.length c] wr fun e w' => e = .returned (.bool true) ∧ Step B w0 k (.slice a M.length c) w' L M := by
  obtain ⟨a2, c2, e, hs, hm, -⟩ := h.own.strs
  cases e
  refine (good_holds h.good a c hs hm h.nodup h.same h.short).mono ?_
  rintro e w' ⟨rfl, hb⟩
  exact ⟨rfl, h.ext hb⟩


theorem Step.start {w3 w4 w5 : World} {c : Nat} (hf : Few w4 w3.heap.size (.slice none 0 0) []) (hb : Below w3.heap.size w3 w4) (hown : w5.ownsRow w3.heap.size 9 1 (.slice (some ⟨w4.heap.size, 0, none⟩) 0 c) 0 []) (hg : w4.grownBy w5 none) :
    Step w3.heap.size w3 0 (.slice (some ⟨w4.heap.size, 0, none⟩) 0 c) w5 [] [] := by
  have hlt := hf.two.lt
  refine ⟨hown, ⟨?_, .inl ⟨_, hf.keep (hg.block _ hlt (by simp)) (fun k hk => by simp [Value.ownBlock] at hk), by simp, List.nodup_nil, fun _ => rfl, fun k hk => by simp [Value.ownBlock] at hk⟩⟩, hb.grown hg hb.size (fun k hk => by cases hk), fun y => Iff.rfl, List.nodup_nil, Nat.le_refl _, by simp, Nat.le_trans hb.size hg.size⟩
  rintro (h | h)
  · omega
  · simp [Value.ownBlock] at h
    omega

theorem copyB_any (a : Option Addr) (cap : Nat) (bs : List Bool) (w : World) (hl : bs.length ≤ 4096) (hs : Bools w a bs.length bs) (hn : a = none → bs = []) :
    Calls Try.prog 24 #[.slice a bs.length cap] w fun e w' => ∃ a' c', e = .returned (.slice a' bs.length c') ∧ Bools w' a' bs.length bs ∧ Below w.heap.size w w' := by
  cases a with
  | none =>
    obtain rfl := hn rfl
    refine (copyB_nil _ _ w).mono ?_
    rintro e w' ⟨rfl, rfl⟩
    exact ⟨none, 0, rfl, ⟨rfl, .inl rfl⟩, Below.refl _ _⟩
  | some x =>
    refine (copyB_some x cap bs w hl hs).mono ?_
    rintro e w' ⟨rfl, ho, hb⟩
    exact ⟨_, _, rfl, ho, hb⟩

set_option maxHeartbeats 400000 in
theorem script_far (a0 a1 : Option Addr) (cap0 cap1 : Nat) (s0 : List ByteArray) (n1 : Nat) (w : World) (h0 : Strs w a0 s0.length s0) (hm0 : s0.length ≤ maxLen) (hm1 : n1 ≤ maxLen) (hf : 4096 < s0.length ∨ 4096 < n1) :
    Calls Try.prog 5 #[.slice a0 s0.length cap0, .slice a1 n1 cap1] w fun e w' => e = .returned (.bool true) ∧ Below w.heap.size w w' := by
  have k22 := bytes22_any a0 a1 _ cap0 n1 cap1 s0 w hm0 hm1 h0
  unfold maxLen at hm0 hm1
  by_cases g0 : 4096 < s0.length
  · go_enter Try.func5, Try.ntmps5
    go_wp2_with fail
    refine k22.mono ?_
    rintro e w' ⟨⟨b, rfl⟩, rfl⟩
    cases b <;> (go_wp2_with fail; go_ret; exact ⟨rfl, Below.refl _ _⟩)
  · have g1 : 4096 < n1 := by omega
    clear hf
    go_enter Try.func5, Try.ntmps5
    go_wp2_with fail
    refine k22.mono ?_
    rintro e w' ⟨⟨b, rfl⟩, rfl⟩
    cases b <;> (go_wp2_with fail; go_ret; exact ⟨rfl, Below.refl _ _⟩)

set_option maxHeartbeats 4000000 in
theorem script_near (a0 a1 : Option Addr) (cap0 cap1 : Nat) (s0 : List ByteArray) (bs : List Bool) (w : World) (h0 : Strs w a0 s0.length s0) (h1 : Bools w a1 bs.length bs) (hn0 : a0 = none → s0 = []) (hn1 : a1 = none → bs = []) (hl0 : s0.length ≤ 4096) (hl1 : bs.length ≤ 4096) (hsh : ∀ s ∈ s0, s.size ≤ maxLen) :
    Calls Try.prog 5 #[.slice a0 s0.length cap0, .slice a1 bs.length cap1] w fun e w' => e = .returned (.bool true) ∧ Below w.heap.size w w' := by
  have k22 := bytes22_any a0 a1 _ cap0 bs.length cap1 s0 w (by unfold maxLen; omega) (by unfold maxLen; omega) h0
  have k23 := fun b => fit_any a0 _ cap0 s0 b w (by unfold maxLen; omega) h0
  obtain ⟨i0, hi, hz0, hz1, hz2⟩ := info_parts Try.info9
  by_cases hmin : bs.length < s0.length
  all_goals
    go_enter Try.func5, Try.ntmps5
    go_wp2_with fail
    refine k22.mono ?_
    rintro e w' ⟨⟨b, rfl⟩, rfl⟩
    clear k22
    cases b
    · go_wp2_with fail; go_ret; exact ⟨rfl, Below.refl _ _⟩
    go_wp2_with fail
    refine (k23 _).mono ?_
    rintro e w' ⟨⟨n, b, rfl⟩, rfl⟩
    clear k23
    cases b
    · go_wp2_with fail; go_ret; exact ⟨rfl, Below.refl _ _⟩
    go_wp2_with fail
    refine (copy_any a0 cap0 s0 w hl0 h0 hn0).mono ?_
    rintro e w2 ⟨a2, c2, rfl, hc2⟩
    have h12 := h1.ext hc2.below
    go_wp2_with fail
    refine (copyB_any a1 cap1 bs w2 hl1 h12 hn1).mono ?_
    rintro e w3 ⟨a3, c3, rfl, ht3, hb3⟩
    have hs3 := hc2.strs.ext hb3
    have hb13 := below_step hc2.below hb3
    clear h0 h1 hn0 hn1 hc2 h12 hb3
    go_wp2_with fail
  · -- as many steps as adds
    refine (new_few (L := []) (World.ownsRow_nil w3 0 9 1) (by simp) 0 0).mono ?_
    rintro e w4 ⟨rfl, hfew, hb4⟩
    go_wp2_with (at_make; refine wpList_make_own _ rfl _ _ 22 rfl w3.heap.size 9 i0 (.string ByteArray.empty) 1 Try.underlying22 hi hz0 hz1 .i64 .i64 _ bs.length rfl rfl (by omega) (by rw [hz2]; omega) (by unfold maxLen; omega) (by have := hb4.size; omega) ?_; intro w5 hown5 hgr5)
    have hstep := Step.start hfew hb4 hown5 hgr5
    clear hfew hown5 hgr5
    go_loopw [9, 10] (fun v i wr => ∃ k : Nat, k ≤ bs.length ∧ i = .int .i64 k ∧ ∃ L M, Step w3.heap.size w3 k v wr L M) (fun _ i _ => bs.length - (intOf i).toNat)
    case atStart => exact ⟨0, Nat.zero_le _, rfl, [], [], hstep⟩
    case round =>
      clear hstep
      obtain ⟨k, hk, rfl, L, M, hst⟩ := hrel
      by_cases hlt : k < bs.length
      · obtain ⟨b, off, he0, hcell⟩ := (hs3.ext hst.below).at k (by omega)
        obtain ⟨b1, off1, he1, hcell1⟩ := (ht3.ext hst.below).at k (by omega)
        subst he0
        subst he1
        obtain ⟨s, hse⟩ : ∃ s, s = s0.getD k ByteArray.empty := ⟨_, rfl⟩
        obtain ⟨q, hqe⟩ : ∃ q, q = bs.getD k false := ⟨_, rfl⟩
        have hss : s.size ≤ maxLen := by rw [hse]; exact hsh _ (getD_mem s0 k (by omega))
        rw [← hse] at hcell
        rw [← hqe] at hcell1
        clear hse hqe hs3 ht3 hsh
        have hk2 : k + 1 ≤ 16384 := by omega
        have hml := hst.len
        obtain ⟨a, c, rfl, hMs, hMm, -⟩ := hst.own.strs
        cases q
        · -- a remove
          have krem := wrap21 (good_remove hst.good s hss (Nat.le_trans hst.llen (by omega)) hst.z)
          go_wp2_with fail
          refine krem.mono ?_
          rintro e w6 ⟨rfl, L', hgood, hmem, hkeep⟩
          have hMs6 : Strs w6 a M.length M := by
            obtain ⟨a2, c2, e2, h2, -⟩ := (keep_own hst.own hkeep).strs
            cases e2
            exact h2
          clear krem hMs
          go_wp2_with fail
          refine (without_any a c M s w6 (by omega) hMs6).mono ?_
          rintro e w7 ⟨v7, rfl, hown7, hb7⟩
          have hst7 := hst.cut hgood hmem hkeep hown7 hb7
          clear hst hgood hmem hkeep hown7 hb7 hMs6 hMm hml
          obtain ⟨a7, c7, rfl, -⟩ := hst7.own.strs
          go_wp2_with fail
          refine (step_shape hst7 hk2).mono ?_
          rintro e w8 ⟨rfl, hst8⟩
          clear hst7
          go_wp2_with fail
          refine (step_holds hst8).mono ?_
          rintro e w9 ⟨rfl, hst9⟩
          clear hst8
          go_wp2_with fail
          go_roundw
          case rel => exact ⟨k + 1, by omega, by go_num, _, _, hst9⟩
          case measure => simp [intOf]; omega
        · -- an add
          have kadd := wrap15 (good_add hst.good s hss (Nat.le_trans hst.llen (by omega)) hst.z)
          go_wp2_with fail
          refine kadd.mono ?_
          rintro e w6 ⟨rfl, hgood, hkeep⟩
          have hown6 := keep_own hst.own hkeep
          have hMs6 : Strs w6 a M.length M := by
            obtain ⟨a2, c2, e2, h2, -⟩ := hown6.strs
            cases e2
            exact h2
          clear kadd hMs
          go_wp2_with fail
          refine (has_any a M.length c M s w6 hMm hMs6).mono ?_
          rintro e w' ⟨rfl, rfl⟩
          cases hin : inB M s
          · clear hMs6 hMm
            go_wp2_with (at_builtin; refine wpList_append_own_at _ rfl _ _ 22 rfl w3.heap.size 9 i0 (.string ByteArray.empty) 1 16 Try.underlying22 hi hz0 hz1 hz2 rfl (by decide) _ _ _ rfl (hown6.alloc _) ⟨w6.heap.size, 0, none⟩ 1 1 [.string s] rfl rfl (cell_one_new _ _ _) (one_string s) (by unfold maxLen; omega) (by omega) (by have := hst.size; have := hkeep.size; simp; omega) ?_; intro v7 w7 hown7 hgr7 hnil7 hloc7; have hst7 := hst.new hgood hkeep hin hss hown7 hgr7 hloc7; have hlen7 : (M ++ [s]).length = M.length + 1 := List.length_append; clear hst hgood hkeep hown7 hgr7 hnil7 hloc7 hown6; obtain ⟨a7, c7, e7, -⟩ := hst7.own.strs; rw [hlen7] at e7; subst e7)
            have k25 := step_shape hst7 hk2
            refine k25.mono ?_
            rintro e w8 ⟨rfl, hst8⟩
            clear hst7 k25
            have k16 : Calls Try.prog 16 #[.pointer (some ⟨w3.heap.size, 0, none⟩), .slice a7 (M.length + 1) c7] w8 fun e w' => e = .returned (.bool true) ∧ Step w3.heap.size w3 (k + 1) (.slice a7 (M.length + 1) c7) w' (addN L s) (M ++ [s]) := by
              rw [← hlen7] at hst8 ⊢
              exact step_holds hst8
            clear hst8 hlen7
            go_wp2_with fail
            refine k16.mono ?_
            rintro e w9 ⟨rfl, hst9⟩
            clear k16
            go_wp2_with fail
            go_roundw
            case rel => exact ⟨k + 1, by omega, by go_num, _, _, hst9⟩
            case measure => simp [intOf]; omega
          · have hst7 := hst.old hgood hkeep hin
            clear hst hgood hkeep hown6 hMs6 hMm hin
            go_wp2_with fail
            refine (step_shape hst7 hk2).mono ?_
            rintro e w8 ⟨rfl, hst8⟩
            clear hst7
            go_wp2_with fail
            refine (step_holds hst8).mono ?_
            rintro e w9 ⟨rfl, hst9⟩
            clear hst8
            go_wp2_with fail
            go_roundw
            case rel => exact ⟨k + 1, by omega, by go_num, _, _, hst9⟩
            case measure => simp [intOf]; omega
      · clear hs3 ht3
        go_wp2
        go_ret
        exact ⟨rfl, below_step hb13 hst.below⟩
  · -- as many steps as names
    have hmin2 : s0.length ≤ bs.length := by omega
    clear hmin
    refine (new_few (L := []) (World.ownsRow_nil w3 0 9 1) (by simp) 0 0).mono ?_
    rintro e w4 ⟨rfl, hfew, hb4⟩
    go_wp2_with (at_make; refine wpList_make_own _ rfl _ _ 22 rfl w3.heap.size 9 i0 (.string ByteArray.empty) 1 Try.underlying22 hi hz0 hz1 .i64 .i64 _ s0.length rfl rfl (by omega) (by rw [hz2]; omega) (by unfold maxLen; omega) (by have := hb4.size; omega) ?_; intro w5 hown5 hgr5)
    have hstep := Step.start hfew hb4 hown5 hgr5
    clear hfew hown5 hgr5
    go_loopw [9, 10] (fun v i wr => ∃ k : Nat, k ≤ s0.length ∧ i = .int .i64 k ∧ ∃ L M, Step w3.heap.size w3 k v wr L M) (fun _ i _ => s0.length - (intOf i).toNat)
    case atStart => exact ⟨0, Nat.zero_le _, rfl, [], [], hstep⟩
    case round =>
      clear hstep
      obtain ⟨k, hk, rfl, L, M, hst⟩ := hrel
      by_cases hlt : k < s0.length
      · obtain ⟨b, off, he0, hcell⟩ := (hs3.ext hst.below).at k (by omega)
        obtain ⟨b1, off1, he1, hcell1⟩ := (ht3.ext hst.below).at k (by omega)
        subst he0
        subst he1
        obtain ⟨s, hse⟩ : ∃ s, s = s0.getD k ByteArray.empty := ⟨_, rfl⟩
        obtain ⟨q, hqe⟩ : ∃ q, q = bs.getD k false := ⟨_, rfl⟩
        have hss : s.size ≤ maxLen := by rw [hse]; exact hsh _ (getD_mem s0 k (by omega))
        rw [← hse] at hcell
        rw [← hqe] at hcell1
        clear hse hqe hs3 ht3 hsh
        have hk2 : k + 1 ≤ 16384 := by omega
        have hml := hst.len
        obtain ⟨a, c, rfl, hMs, hMm, -⟩ := hst.own.strs
        cases q
        · -- a remove
          have krem := wrap21 (good_remove hst.good s hss (Nat.le_trans hst.llen (by omega)) hst.z)
          go_wp2_with fail
          refine krem.mono ?_
          rintro e w6 ⟨rfl, L', hgood, hmem, hkeep⟩
          have hMs6 : Strs w6 a M.length M := by
            obtain ⟨a2, c2, e2, h2, -⟩ := (keep_own hst.own hkeep).strs
            cases e2
            exact h2
          clear krem hMs
          go_wp2_with fail
          refine (without_any a c M s w6 (by omega) hMs6).mono ?_
          rintro e w7 ⟨v7, rfl, hown7, hb7⟩
          have hst7 := hst.cut hgood hmem hkeep hown7 hb7
          clear hst hgood hmem hkeep hown7 hb7 hMs6 hMm hml
          obtain ⟨a7, c7, rfl, -⟩ := hst7.own.strs
          go_wp2_with fail
          refine (step_shape hst7 hk2).mono ?_
          rintro e w8 ⟨rfl, hst8⟩
          clear hst7
          go_wp2_with fail
          refine (step_holds hst8).mono ?_
          rintro e w9 ⟨rfl, hst9⟩
          clear hst8
          go_wp2_with fail
          go_roundw
          case rel => exact ⟨k + 1, by omega, by go_num, _, _, hst9⟩
          case measure => simp [intOf]; omega
        · -- an add
          have kadd := wrap15 (good_add hst.good s hss (Nat.le_trans hst.llen (by omega)) hst.z)
          go_wp2_with fail
          refine kadd.mono ?_
          rintro e w6 ⟨rfl, hgood, hkeep⟩
          have hown6 := keep_own hst.own hkeep
          have hMs6 : Strs w6 a M.length M := by
            obtain ⟨a2, c2, e2, h2, -⟩ := hown6.strs
            cases e2
            exact h2
          clear kadd hMs
          go_wp2_with fail
          refine (has_any a M.length c M s w6 hMm hMs6).mono ?_
          rintro e w' ⟨rfl, rfl⟩
          cases hin : inB M s
          · clear hMs6 hMm
            go_wp2_with (at_builtin; refine wpList_append_own_at _ rfl _ _ 22 rfl w3.heap.size 9 i0 (.string ByteArray.empty) 1 16 Try.underlying22 hi hz0 hz1 hz2 rfl (by decide) _ _ _ rfl (hown6.alloc _) ⟨w6.heap.size, 0, none⟩ 1 1 [.string s] rfl rfl (cell_one_new _ _ _) (one_string s) (by unfold maxLen; omega) (by omega) (by have := hst.size; have := hkeep.size; simp; omega) ?_; intro v7 w7 hown7 hgr7 hnil7 hloc7; have hst7 := hst.new hgood hkeep hin hss hown7 hgr7 hloc7; have hlen7 : (M ++ [s]).length = M.length + 1 := List.length_append; clear hst hgood hkeep hown7 hgr7 hnil7 hloc7 hown6; obtain ⟨a7, c7, e7, -⟩ := hst7.own.strs; rw [hlen7] at e7; subst e7)
            have k25 := step_shape hst7 hk2
            refine k25.mono ?_
            rintro e w8 ⟨rfl, hst8⟩
            clear hst7 k25
            have k16 : Calls Try.prog 16 #[.pointer (some ⟨w3.heap.size, 0, none⟩), .slice a7 (M.length + 1) c7] w8 fun e w' => e = .returned (.bool true) ∧ Step w3.heap.size w3 (k + 1) (.slice a7 (M.length + 1) c7) w' (addN L s) (M ++ [s]) := by
              rw [← hlen7] at hst8 ⊢
              exact step_holds hst8
            clear hst8 hlen7
            go_wp2_with fail
            refine k16.mono ?_
            rintro e w9 ⟨rfl, hst9⟩
            clear k16
            go_wp2_with fail
            go_roundw
            case rel => exact ⟨k + 1, by omega, by go_num, _, _, hst9⟩
            case measure => simp [intOf]; omega
          · have hst7 := hst.old hgood hkeep hin
            clear hst hgood hkeep hown6 hMs6 hMm hin
            go_wp2_with fail
            refine (step_shape hst7 hk2).mono ?_
            rintro e w8 ⟨rfl, hst8⟩
            clear hst7
            go_wp2_with fail
            refine (step_holds hst8).mono ?_
            rintro e w9 ⟨rfl, hst9⟩
            clear hst8
            go_wp2_with fail
            go_roundw
            case rel => exact ⟨k + 1, by omega, by go_num, _, _, hst9⟩
            case measure => simp [intOf]; omega
      · clear hs3 ht3
        go_wp2
        go_ret
        exact ⟨rfl, below_step hb13 hst.below⟩
end Go.Proofs.Qxb6601288a
