/-
  THE NAME SET's OWN METHODS: index, len, add, remove; the maker; the looks from outside.
-/
import Derived.Test.Qxb6601288aSets
namespace Go.Proofs.Qxb6601288a
open Go.RowKit Go.Maps

/-- Block p is a name set whose slice is fv and whose map is mv. -/
def Two (w : World) (p : Nat) (fv mv : Value) : Prop := w.heap[p]? = some (.cells #[fv, mv] 52 (0, 0))

/-- Block p is a name set in slice form: the slice owns the names L. -/
structure Few (w : World) (p : Nat) (fv : Value) (L : List ByteArray) : Prop where
  two : Two w p fv (.map none)
  own : Own w 0 fv L
  ne : fv.ownBlock ≠ some p
  short : ∀ s ∈ L, s.size ≤ maxLen

/-- Block p is a name set in map form: the map m holds the names L, the slice is nil. -/
structure Many (w : World) (p m : Nat) (L : List ByteArray) : Prop where
  two : Two w p (.slice none 0 0) (.map (some m))
  set : MapIs w m L

theorem Two.c0 {w : World} {p : Nat} {fv mv : Value} (h : Two w p fv mv) : w.cell? ⟨p, 0, none⟩ = some fv := by rw [cell_of_row w p 0 _ _ _ h]; rfl
theorem Two.c1 {w : World} {p : Nat} {fv mv : Value} (h : Two w p fv mv) : w.cell? ⟨p, 1, none⟩ = some mv := by rw [cell_of_row w p 1 _ _ _ h]; rfl
theorem Two.f0 {w : World} {p : Nat} {fv mv : Value} (h : Two w p fv mv) : w.frozen? ⟨p, 0, none⟩ = false := frozen_of_row w p 0 _ _ h
theorem Two.f1 {w : World} {p : Nat} {fv mv : Value} (h : Two w p fv mv) : w.frozen? ⟨p, 1, none⟩ = false := frozen_of_row w p 1 _ _ h
theorem Two.lt {w : World} {p : Nat} {fv mv : Value} (h : Two w p fv mv) : p < w.heap.size := (Array.getElem?_eq_some_iff.1 h).1
theorem Two.set0 {w : World} {p : Nat} {fv mv : Value} (h : Two w p fv mv) (v : Value) : Two (w.setCell ⟨p, 0, none⟩ v) p v mv := heap_setCell_same w p 0 _ _ v h
theorem Two.set1 {w : World} {p : Nat} {fv mv : Value} (h : Two w p fv mv) (v : Value) : Two (w.setCell ⟨p, 1, none⟩ v) p fv v := heap_setCell_same w p 1 _ _ v h
theorem Two.keep {w w' : World} {p : Nat} {fv mv : Value} (h : Two w p fv mv) (hb : w'.heap[p]? = w.heap[p]?) : Two w' p fv mv := hb.trans h

/-- The blocks of Z hold in w' what they held in w. -/
structure Keep (Z : Nat → Prop) (w w' : World) : Prop where
  os : w'.os = w.os
  tape : w'.tape = w.tape
  output : w'.output = w.output
  size : w.heap.size ≤ w'.heap.size
  block : ∀ k, Z k → w'.heap[k]? = w.heap[k]?

theorem Keep.refl (Z : Nat → Prop) (w : World) : Keep Z w w := ⟨rfl, rfl, rfl, Nat.le_refl _, fun _ _ => rfl⟩
theorem Keep.trans {Z : Nat → Prop} {a b c : World} (h : Keep Z a b) (k : Keep Z b c) : Keep Z a c :=
  ⟨k.os.trans h.os, k.tape.trans h.tape, k.output.trans h.output, Nat.le_trans h.size k.size, fun i hi => (k.block i hi).trans (h.block i hi)⟩
theorem Keep.mono {Z Y : Nat → Prop} {a b : World} (h : Keep Z a b) (hz : ∀ k, Y k → Z k) : Keep Y a b := ⟨h.os, h.tape, h.output, h.size, fun k hk => h.block k (hz k hk)⟩
theorem Keep.below {B : Nat} {w w' : World} (h : Keep (· < B) w w') : Below B w w' := ⟨h.os, h.tape, h.output, h.size, h.block⟩
theorem Keep.of_below {B : Nat} {w w' : World} (h : Below B w w') : Keep (· < B) w w' := ⟨h.os, h.tape, h.output, h.size, h.block⟩
theorem Keep.of_grown {Z : Nat → Prop} {w w' : World} {row : Option Nat} (hg : w.grownBy w' row) (hz : ∀ k, Z k → k < w.heap.size) (hr : ∀ k, Z k → some k ≠ row) : Keep Z w w' :=
  ⟨hg.os, hg.tape, hg.output, hg.size, fun k hk => hg.block k (hz k hk) (hr k hk)⟩
theorem Keep.of_alloc {Z : Nat → Prop} (w : World) (o : Obj) (hz : ∀ k, Z k → k < w.heap.size) : Keep Z w (w.alloc o) :=
  Keep.of_grown (World.grownBy_alloc w o none) hz (by simp)
theorem Keep.of_set {Z : Nat → Prop} (w : World) (a : Addr) (v : Value) (hz : ¬ Z a.block) : Keep Z w (w.setCell a v) :=
  ⟨rfl, rfl, rfl, by simp [World.setCell], fun k hk => heap_setCell_other w a k v (fun e => hz (e ▸ hk))⟩

theorem Own.keep {w w' : World} {base : Nat} {v : Value} {ss : List ByteArray} (h : Own w base v ss) (hb : ∀ k, v.ownBlock = some k → w'.heap[k]? = w.heap[k]?) : Own w' base v ss := by
  refine ⟨h.1, ?_⟩
  rcases h.2 with h0 | ⟨g, cap, cur, rfl, hg, hh, r⟩
  · exact .inl h0
  · exact .inr ⟨g, cap, cur, rfl, hg, (hb g rfl).trans hh, r⟩

theorem Few.keep {w w' : World} {p : Nat} {fv : Value} {L : List ByteArray} (h : Few w p fv L) (hp : w'.heap[p]? = w.heap[p]?) (hb : ∀ k, fv.ownBlock = some k → w'.heap[k]? = w.heap[k]?) : Few w' p fv L :=
  ⟨h.two.keep hp, h.own.keep hb, h.ne, h.short⟩
theorem Many.keep {w w' : World} {p m : Nat} {L : List ByteArray} (h : Many w p m L) (hp : w'.heap[p]? = w.heap[p]?) (hm : w'.heap[m]? = w.heap[m]?) : Many w' p m L :=
  ⟨h.two.keep hp, h.set.keep hm⟩
theorem Few.ext {w w' : World} {p : Nat} {fv : Value} {L : List ByteArray} (h : Few w p fv L) (hb : Below w.heap.size w w') : Few w' p fv L :=
  h.keep (hb.block p h.two.lt) (fun k hk => hb.block k (h.own.lt k hk).2)
theorem Many.ext {w w' : World} {p m : Nat} {L : List ByteArray} (h : Many w p m L) (hb : Below w.heap.size w w') : Many w' p m L :=
  h.keep (hb.block p h.two.lt) (hb.block m h.set.lt)
theorem Many.ne {w : World} {p m : Nat} {L : List ByteArray} (h : Many w p m L) : m ≠ p := by
  rintro rfl
  obtain ⟨D, ⟨es, clock, h0, _⟩, _⟩ := h.set
  have := h.two
  unfold Two at this
  rw [h0] at this
  cases this

/-! ### index -/
def IdxOf (L : List ByteArray) (x : ByteArray) (i : Int) : Prop := (i = -1 ∧ x ∉ L) ∨ ∃ j : Nat, j < L.length ∧ i = j ∧ L.getD j ByteArray.empty = x
def RetIdx (L : List ByteArray) (x : ByteArray) (e : Ending) : Prop := ∃ i : Int, e = .returned (.int .i64 i) ∧ IdxOf L x i

set_option maxHeartbeats 400000 in
theorem index_any (p : Nat) (a : Option Addr) (cap : Nat) (L : List ByteArray) (x : ByteArray) (w : World) (hm : L.length ≤ maxLen) (h0 : w.cell? ⟨p, 0, none⟩ = some (.slice a L.length cap)) (hs : Strs w a L.length L) :
    Calls Try.prog 42 #[.pointer (some ⟨p, 0, none⟩), .string x] w fun e w' => RetIdx L x e ∧ w = w' := by
  unfold maxLen at hm
  go_enter Try.func42, Try.ntmps42
  go_wp2
  go_loop [12] (fun i => ∃ k : Nat, k ≤ L.length ∧ i = .int .i64 k ∧ x ∉ L.take k) (fun i => L.length - (intOf i).toNat)
  case atStart => exact ⟨0, Nat.zero_le _, rfl, by simp⟩
  case round =>
    obtain ⟨k, hk, rfl, hn⟩ := hrel
    have HN : Hid (x ∉ L.take k) := hn
    clear hn
    by_cases hlt : k < L.length
    · obtain ⟨b, off, rfl, hcell⟩ := hs.at k hlt
      clear hs
      obtain ⟨s, hs⟩ : ∃ s, s = L.getD k ByteArray.empty := ⟨_, rfl⟩
      rw [← hs] at hcell
      have HS : Hid (s = L.getD k ByteArray.empty) := hs
      clear hs
      go_wp2
      · go_ret
        exact ⟨⟨_, rfl, .inr ⟨k, hlt, rfl, by rw [← HS.out]; exact eq_of_beq ‹_›⟩⟩, rfl⟩
      · go_round
        case rel => exact ⟨k + 1, by omega, by go_num, has_step hlt HS.out HN.out ‹_›⟩
        case measure => simp [intOf]; omega
    · go_wp2
      go_ret
      exact ⟨⟨_, rfl, .inl ⟨rfl, by have := HN.out; rwa [List.take_of_length_le (by omega)] at this⟩⟩, rfl⟩

theorem index_few {w : World} {p : Nat} {fv : Value} {L : List ByteArray} (h : Few w p fv L) (x : ByteArray) : Calls Try.prog 42 #[.pointer (some ⟨p, 0, none⟩), .string x] w fun e w' => RetIdx L x e ∧ w = w' := by
  obtain ⟨a, cap, rfl, hs, hm, -⟩ := h.own.strs
  exact index_any p a cap L x w hm h.two.c0 hs

/-! ### add -/
set_option maxHeartbeats 400000 in
theorem add_in {w : World} {p : Nat} {fv : Value} {L : List ByteArray} (h : Few w p fv L) (x : ByteArray) (hx : x ∈ L) :
    Calls Try.prog 36 #[.pointer (some ⟨p, 0, none⟩), .string x] w fun e w' => e = .returned (.tuple #[]) ∧ w = w' := by
  have hn := neNil50
  have c1 := h.two.c1
  go_enter Try.func36, Try.ntmps36
  go_wp2_with fail
  refine (index_few h x).mono ?_
  rintro e w' ⟨⟨i, rfl, hi⟩, rfl⟩
  have hi0 : 0 ≤ i := by
    rcases hi with ⟨_, hi⟩ | ⟨j, _, rfl, _⟩
    · exact absurd hx hi
    · omega
  go_wp2_with fail
  exact bodyPost_ret (results_none Try.results36 _ _ _) rfl ⟨rfl, rfl⟩


/-- What add leaves of a set in slice form that has room. -/
structure Grew (Z : Nat → Prop) (w : World) (p : Nat) (L : List ByteArray) (w' : World) : Prop where
  few : ∃ fv, Few w' p fv L ∧ ∀ k, fv.ownBlock = some k → ¬ Z k
  keep : Keep Z w w'

theorem idx_miss {L : List ByteArray} {x : ByteArray} {i : Int} (h : IdxOf L x i) (hx : x ∉ L) : i = -1 := by
  rcases h with ⟨h, _⟩ | ⟨j, hj, _, he⟩
  · exact h
  · exact absurd (he ▸ getD_mem L j hj) hx

theorem short_snoc {L : List ByteArray} {x : ByteArray} (h : ∀ s ∈ L, s.size ≤ maxLen) (hx : x.size ≤ maxLen) : ∀ s ∈ L ++ [x], s.size ≤ maxLen := by
  intro s hs
  rcases List.mem_append.1 hs with h1 | h1
  · exact h s h1
  · simp at h1; subst h1; exact hx

theorem add_facts {w w2 : World} {p : Nat} {fv v' : Value} {L : List ByteArray} {o : Obj} {n : Nat} {xs : List Value} (h : Few w p fv L) (hown' : w2.ownsRow 0 9 1 v' n xs) (hgrow : (w.alloc o).grownBy w2 fv.ownBlock) :
    ∃ a' cap', v' = .slice a' n cap' ∧ w2.cell? ⟨p, 0, none⟩ = some fv ∧ w2.frozen? ⟨p, 0, none⟩ = false := by
  have h2 : Two w2 p fv (.map none) := (h.two.keep (Below.heap_alloc w o p h.two.lt)).keep (hgrow.block p (by have := h.two.lt; simp; omega) (fun e => h.ne e.symm))
  rcases hown'.2 with ⟨rfl, rfl⟩ | ⟨g, cap, cur, rfl, _⟩
  · exact ⟨_, _, rfl, h2.c0, h2.f0⟩
  · exact ⟨_, _, rfl, h2.c0, h2.f0⟩

theorem add_done {Z : Nat → Prop} {w w2 : World} {p : Nat} {fv v' : Value} {L : List ByteArray} {o : Obj} {x : ByteArray} (h : Few w p fv L) (hxs : x.size ≤ maxLen) (hZ : ∀ k, Z k → k < w.heap.size) (hzp : ¬ Z p) (hzf : ∀ k, fv.ownBlock = some k → ¬ Z k)
    (hown' : w2.ownsRow 0 9 1 v' (L.length + 1) (L.map Value.string ++ [Value.string x])) (hgrow : (w.alloc o).grownBy w2 fv.ownBlock) (hloc : v'.ownBlock = fv.ownBlock ∨ v'.ownBlock = some (w.alloc o).heap.size) :
    Grew Z w p (L ++ [x]) (w2.setCell ⟨p, 0, none⟩ v') := by
  have h2 : Two w2 p fv (.map none) := (h.two.keep (Below.heap_alloc w o p h.two.lt)).keep (hgrow.block p (by have := h.two.lt; simp; omega) (fun e => h.ne e.symm))
  have hne : v'.ownBlock ≠ some p := by
    rcases hloc with e | e
    · rw [e]; exact h.ne
    · rw [e]; intro e2; simp at e2; have := h.two.lt; omega
  refine ⟨⟨v', ⟨h2.set0 v', ?_, hne, short_snoc h.short hxs⟩, ?_⟩, ?_⟩
  · have e : Own w2 0 v' (L ++ [x]) := by unfold Own; simpa using hown'
    exact e.keep fun k hk => heap_setCell_other w2 _ k v' (fun e => hne (by rw [hk, e]))
  · intro k hk hz
    rcases hloc with e | e
    · exact hzf k (e ▸ hk) hz
    · rw [hk] at e; simp at e; have := hZ k hz; omega
  · refine ((Keep.of_alloc w o hZ).trans (Keep.of_grown hgrow (fun k hk => ?_) (fun k hk e => hzf k e.symm hk))).trans (Keep.of_set w2 _ _ hzp)
    have := hZ k hk
    simp; omega

set_option maxHeartbeats 400000 in
theorem add_room {Z : Nat → Prop} {w : World} {p : Nat} {fv : Value} {L : List ByteArray} (h : Few w p fv L) (x : ByteArray) (hx : x ∉ L) (hxs : x.size ≤ maxLen) (hl : L.length < 8) (hZ : ∀ k, Z k → k < w.heap.size) (hzp : ¬ Z p) (hzf : ∀ k, fv.ownBlock = some k → ¬ Z k) :
    Calls Try.prog 36 #[.pointer (some ⟨p, 0, none⟩), .string x] w fun e w' => e = .returned (.tuple #[]) ∧ Grew Z w p (L ++ [x]) w' := by
  have hn := neNil50
  have c1 := h.two.c1
  obtain ⟨i0, hi, hz0, hz1, hz2⟩ := info_parts Try.info9
  go_enter Try.func36, Try.ntmps36
  go_wp2_with fail
  refine (index_few h x).mono ?_
  rintro e w' ⟨⟨i, rfl, hid⟩, rfl⟩
  obtain rfl := idx_miss hid hx
  clear hid
  have c0 := h.two.c0
  obtain ⟨a, cap, rfl, hs, hm, -⟩ := h.own.strs
  go_wp2_with (at_builtin; refine wpList_append_own_at _ rfl _ _ 22 rfl 0 9 i0 (.string ByteArray.empty) 1 16 Try.underlying22 hi hz0 hz1 hz2 rfl (by decide) _ _ _ rfl (h.own.alloc _) ⟨w.heap.size, 0, none⟩ 1 1 [.string x] rfl rfl (cell_one_new _ _ _) (one_string x) (by unfold maxLen; omega) (by omega) (Nat.zero_le _) ?_; intro v' w2 hown' hgrow hnil hloc; obtain ⟨a', cap', rfl, hc2, hf2⟩ := add_facts h hown' hgrow)
  exact bodyPost_ret (results_none Try.results36 _ _ _) rfl ⟨rfl, add_done h hxs hZ hzp hzf hown' hgrow hloc⟩

/-- What add leaves of a set in slice form that is full: the set is in map form now. -/
structure Turned (Z : Nat → Prop) (w : World) (p : Nat) (L : List ByteArray) (w' : World) : Prop where
  many : ∃ m, Many w' p m L ∧ ¬ Z m
  keep : Keep Z w w'

theorem addN_take {L : List ByteArray} {k : Nat} (hn : L.Nodup) (hk : k < L.length) : addN (L.take k) (L.getD k ByteArray.empty) = L.take (k + 1) := by
  rw [take_succ_getD L k hk, addN_new]
  rw [inB_false]
  intro h
  have h2 : (L.take (k + 1)).Nodup := hn.sublist (List.take_sublist _ _)
  rw [take_succ_getD L k hk, List.nodup_append] at h2
  exact h2.2.2 _ h _ (by simp) rfl

/-- The world while add moves the names into the map. -/
structure Moving (w : World) (p : Nat) (fv : Value) (M : List ByteArray) (wr : World) : Prop where
  two : Two wr p fv (.map (some w.heap.size))
  set : MapIs wr w.heap.size M
  keep : Keep (fun b => b < w.heap.size ∧ b ≠ p) w wr

theorem Moving.start {w : World} {p : Nat} {fv : Value} {L : List ByteArray} (h : Few w p fv L) : Moving w p fv [] ((w.setCell ⟨p, 1, none⟩ (.map (some w.heap.size))).alloc (.map #[] 0)) := by
  have hlt := h.two.lt
  have hsz : (w.setCell ⟨p, 1, none⟩ (.map (some w.heap.size))).heap.size = w.heap.size := by simp [World.setCell]
  refine ⟨(h.two.set1 _).keep (Below.heap_alloc _ _ p (by rw [hsz]; exact hlt)), ?_, (Keep.of_set _ _ _ (fun e => e.2 rfl)).trans (Keep.of_alloc _ _ (fun k hk => by rw [hsz]; exact hk.1))⟩
  have h1 := MapIs.made (w.setCell ⟨p, 1, none⟩ (.map (some w.heap.size)))
  rwa [hsz] at h1

theorem Moving.step {w wr w1 : World} {p : Nat} {fv : Value} {M M' : List ByteArray} (h : Moving w p fv M wr) (hp : p < w.heap.size) (hm : MapIs w1 w.heap.size M') (hg : wr.grownBy w1 (some w.heap.size)) : Moving w p fv M' w1 := by
  have hs := h.keep.size
  refine ⟨h.two.keep (hg.block p (by omega) (by simp; omega)), hm, h.keep.trans (Keep.of_grown hg (fun k hk => by have := hk.1; omega) (fun k hk e => by simp at e; have := hk.1; omega))⟩

theorem Moving.strs {w wr : World} {p : Nat} {fv : Value} {L M : List ByteArray} (hm : Moving w p fv M wr) (h : Few w p fv L) : Own wr 0 fv L :=
  h.own.keep fun k hk => hm.keep.block k ⟨(h.own.lt k hk).2, fun e => h.ne (e ▸ hk)⟩

theorem Moving.done {Z : Nat → Prop} {w wr : World} {p : Nat} {fv : Value} {L M : List ByteArray} (hm : Moving w p fv M wr) (h : Few w p fv L) (hZ : ∀ k, Z k → k < w.heap.size) (hzp : ¬ Z p) : Turned Z w p M (wr.setCell ⟨p, 0, none⟩ (.slice none 0 0)) := by
  have hlt := h.two.lt
  refine ⟨⟨w.heap.size, ⟨hm.two.set0 _, hm.set.keep (heap_setCell_other _ _ _ _ (by show w.heap.size ≠ p; omega))⟩, fun e => by have := hZ _ e; omega⟩, ?_⟩
  exact (hm.keep.mono fun k hk => ⟨hZ k hk, fun e => hzp (e ▸ hk)⟩).trans (Keep.of_set _ _ _ hzp)

set_option maxHeartbeats 800000 in
theorem add_full {Z : Nat → Prop} {w : World} {p : Nat} {fv : Value} {L : List ByteArray} (h : Few w p fv L) (x : ByteArray) (hx : x ∉ L) (hxs : x.size ≤ maxLen) (hl : 8 ≤ L.length) (hl2 : L.length ≤ 16384) (hnd : L.Nodup) (hZ : ∀ k, Z k → k < w.heap.size) (hzp : ¬ Z p) :
    Calls Try.prog 36 #[.pointer (some ⟨p, 0, none⟩), .string x] w fun e w' => e = .returned (.tuple #[]) ∧ Turned Z w p (L ++ [x]) w' := by
  have hn := neNil50
  have hmk := run_make50
  have c1 := h.two.c1
  go_enter Try.func36, Try.ntmps36
  go_wp2_with fail
  refine (index_few h x).mono ?_
  rintro e w' ⟨⟨i, rfl, hid⟩, rfl⟩
  obtain rfl := idx_miss hid hx
  clear hid
  have c0 := h.two.c0
  have f1 := h.two.f1
  have hlt := h.two.lt
  obtain ⟨a, cap, rfl, hs, hm, -⟩ := h.own.strs
  have hst := Moving.start h
  go_wp2
  go_loopw [46] (fun i wr => ∃ k : Nat, k ≤ L.length ∧ i = .int .i64 k ∧ Moving w p (.slice a L.length cap) (L.take k) wr) (fun i _ => L.length - (intOf i).toNat)
  case atStart => exact ⟨0, Nat.zero_le _, rfl, hst⟩
  case round =>
    obtain ⟨k, hk, rfl, hmv⟩ := hrel
    clear hst hs c0 c1 f1
    have d0 := hmv.two.c0
    have d1 := hmv.two.c1
    have g0 := hmv.two.f0
    have hset := hmv.set
    have htl := List.length_take_le k L
    by_cases hlt2 : k < L.length
    · obtain ⟨a2, cap2, he, hs, -⟩ := (hmv.strs h).strs
      cases he
      obtain ⟨b, off, rfl, hcell⟩ := hs.at k hlt2
      obtain ⟨s, hse⟩ : ∃ s, s = L.getD k ByteArray.empty := ⟨_, rfl⟩
      have hss : s.size ≤ maxLen := by rw [hse]; exact h.short _ (getD_mem L k hlt2)
      have hstep := addN_take hnd hlt2
      rw [← hse] at hcell hstep
      have HS : Hid (addN (L.take k) s = L.take (k + 1)) := hstep
      clear hse hstep hs
      go_wp2_with (at_mapUpdate; refine wpList_set_put _ rfl _ _ _ rfl w.heap.size _ rfl hset (by unfold maxLen; omega) s rfl rfl hss ?_; intro w1 hset1 hgrow1)
      go_roundw
      case rel => exact ⟨k + 1, by omega, by go_num, hmv.step hlt (by rw [← HS.out]; exact hset1) hgrow1⟩
      case measure => simp [intOf]; omega
    · have e : L.take k = L := List.take_of_length_le (by omega)
      have hin : addN L x = L ++ [x] := addN_new (inB_false.2 hx)
      rw [e] at hset hmv
      clear e htl
      go_wp2_with (at_mapUpdate; refine wpList_set_put _ rfl _ _ _ rfl w.heap.size _ rfl hset (by unfold maxLen; omega) x rfl rfl hxs ?_; intro w1 hset1 hgrow1; rw [hin] at hset1; have hmv1 := hmv.step hlt hset1 hgrow1; have k0 := hmv1.two.c0; have k1 := hmv1.two.f0)
      go_end0
      exact ⟨rfl, hmv1.done h hZ hzp⟩

theorem Many.grown {Z : Nat → Prop} {w w1 : World} {p m : Nat} {L M : List ByteArray} (h : Many w p m L) (hm : MapIs w1 m M) (hg : w.grownBy w1 (some m)) (hZ : ∀ k, Z k → k < w.heap.size) (hzm : ¬ Z m) : Many w1 p m M ∧ Keep Z w w1 :=
  ⟨⟨h.two.keep (hg.block p h.two.lt (by simp; exact h.ne.symm)), hm⟩, Keep.of_grown hg hZ (fun k hk e => by cases e; exact hzm hk)⟩

set_option maxHeartbeats 400000 in
theorem add_many {Z : Nat → Prop} {w : World} {p m : Nat} {L : List ByteArray} (h : Many w p m L) (x : ByteArray) (hxs : x.size ≤ maxLen) (hl : L.length < maxLen) (hZ : ∀ k, Z k → k < w.heap.size) (hzm : ¬ Z m) :
    Calls Try.prog 36 #[.pointer (some ⟨p, 0, none⟩), .string x] w fun e w' => e = .returned (.tuple #[]) ∧ Many w' p m (addN L x) ∧ Keep Z w w' := by
  have hn := neNil50
  have c1 := h.two.c1
  have hset := h.set
  go_enter Try.func36, Try.ntmps36
  go_wp2_with (at_mapUpdate; refine wpList_set_put _ rfl _ _ _ rfl m _ rfl hset hl x rfl rfl hxs ?_; intro w1 hset1 hgrow1)
  exact bodyPost_ret (results_none Try.results36 _ _ _) rfl ⟨rfl, h.grown hset1 hgrow1 hZ hzm⟩

/-! ### remove -/
set_option maxHeartbeats 400000 in
theorem remove_miss {w : World} {p : Nat} {fv : Value} {L : List ByteArray} (h : Few w p fv L) (x : ByteArray) (hx : x ∉ L) :
    Calls Try.prog 40 #[.pointer (some ⟨p, 0, none⟩), .string x] w fun e w' => e = .returned (.tuple #[]) ∧ w = w' := by
  have hn := neNil50
  have c1 := h.two.c1
  go_enter Try.func40, Try.ntmps40
  go_wp2_with fail
  refine (index_few h x).mono ?_
  rintro e w' ⟨⟨i, rfl, hid⟩, rfl⟩
  obtain rfl := idx_miss hid hx
  go_wp2_with fail
  exact bodyPost_ret (results_none Try.results40 _ _ _) rfl ⟨rfl, rfl⟩

set_option maxHeartbeats 400000 in
theorem remove_many {Z : Nat → Prop} {w : World} {p m : Nat} {L : List ByteArray} (h : Many w p m L) (x : ByteArray) (hxs : x.size ≤ maxLen) (_hl : L.length < maxLen) (hZ : ∀ k, Z k → k < w.heap.size) (hzm : ¬ Z m) (he : without L x ≠ []) :
    Calls Try.prog 40 #[.pointer (some ⟨p, 0, none⟩), .string x] w fun e w' => e = .returned (.tuple #[]) ∧ Many w' p m (without L x) ∧ Keep Z w w' := by
  have hn := neNil50
  have c1 := h.two.c1
  have hset := h.set
  have hpos : 0 < (without L x).length := List.length_pos_iff.2 he
  have hle := without_len L x
  unfold maxLen at _hl
  go_enter Try.func40, Try.ntmps40
  go_wp2_with (first
    | (at_delete; refine wpList_set_del _ rfl _ _ rfl m _ rfl hset x rfl hxs ?_; intro w1 hset1 hgrow1; obtain ⟨hmy, hkp⟩ := h.grown hset1 hgrow1 hZ hzm; have d1 := hmy.two.c1)
    | (at_len; refine wpList_set_len _ rfl _ rfl m _ rfl hset1 ?_))
  exact bodyPost_ret (results_none Try.results40 _ _ _) rfl ⟨rfl, hmy, hkp⟩

theorem Many.emptied {Z : Nat → Prop} {w w1 : World} {p m : Nat} (hk : Keep Z w w1) (hmy : Many w1 p m []) (hzp : ¬ Z p) : Few (w1.setCell ⟨p, 1, none⟩ (.map none)) p (.slice none 0 0) [] ∧ Keep Z w (w1.setCell ⟨p, 1, none⟩ (.map none)) :=
  ⟨⟨hmy.two.set1 _, World.ownsRow_nil _ _ _ _, by simp [Value.ownBlock], by simp⟩, hk.trans (Keep.of_set _ _ _ hzp)⟩

set_option maxHeartbeats 400000 in
theorem remove_last {Z : Nat → Prop} {w : World} {p m : Nat} {L : List ByteArray} (h : Many w p m L) (x : ByteArray) (hxs : x.size ≤ maxLen) (hZ : ∀ k, Z k → k < w.heap.size) (hzm : ¬ Z m) (hzp : ¬ Z p) (he : without L x = []) :
    Calls Try.prog 40 #[.pointer (some ⟨p, 0, none⟩), .string x] w fun e w' => e = .returned (.tuple #[]) ∧ Few w' p (.slice none 0 0) [] ∧ Keep Z w w' := by
  have hn := neNil50
  have c1 := h.two.c1
  have hset := h.set
  have HE : Hid (without L x = []) := he
  clear he
  go_enter Try.func40, Try.ntmps40
  go_wp2_with (first
    | (at_delete; refine wpList_set_del _ rfl _ _ rfl m _ rfl hset x rfl hxs ?_; intro w1 hset1 hgrow1; rw [HE.out] at hset1; obtain ⟨hmy, hkp⟩ := h.grown hset1 hgrow1 hZ hzm; have d1 := hmy.two.c1; have g1 := hmy.two.f1)
    | (at_len; refine wpList_set_len _ rfl _ rfl m _ rfl hset1 ?_))
  exact bodyPost_ret (results_none Try.results40 _ _ _) rfl ⟨rfl, Many.emptied hkp hmy hzp⟩
end Go.Proofs.Qxb6601288a
