/-
  THE LAW: EACH add ANSWERS TRUE JUST AT A GROUP's FIRST ARRIVAL: THE WALK.
-/
import Derived.Test.Qxb6601295aHelp
namespace Go.Proofs.Qxb6601295a
open Go.RowKit

/-- The cells of the empty set. -/
def zeroSet : Array Value := #[.int .i32 0, .int .u32 0, .int .u64 0, .int .i32 0, .int .u32 0, .int .u64 0, .int .i32 0, .int .u32 0, .int .u64 0, .int .i32 0, .int .u32 0, .int .u64 0, .int .i32 0, .int .u32 0, .int .u64 0, .int .i32 0, .int .u32 0, .int .u64 0, .int .i32 0, .int .u32 0, .int .u64 0, .int .i32 0, .int .u32 0, .int .u64 0, .int .i64 0, .slice none 0 0, .int .u32 0]

theorem zeroSet_word : ∀ i, i < 8 → WordIn zeroSet (i * 3) (0, 0)
  | 0, _ => ⟨rfl, rfl, rfl⟩
  | 1, _ => ⟨rfl, rfl, rfl⟩
  | 2, _ => ⟨rfl, rfl, rfl⟩
  | 3, _ => ⟨rfl, rfl, rfl⟩
  | 4, _ => ⟨rfl, rfl, rfl⟩
  | 5, _ => ⟨rfl, rfl, rfl⟩
  | 6, _ => ⟨rfl, rfl, rfl⟩
  | 7, _ => ⟨rfl, rfl, rfl⟩
  | n + 8, h => by omega

theorem gset_start (w : World) : GSet (w.alloc (.cells zeroSet 50)) w.heap.size [] [] := by
  refine .inl ⟨fun _ => (0, 0), ⟨⟨zeroSet, heap_alloc_new w _, rfl, zeroSet_word, rfl, rfl, rfl⟩, by simp, by simp, ?_⟩⟩
  refine ⟨fun _ _ _ _ o => absurd rfl o, fun x => ?_, fun q => ?_, List.nodup_nil, fun i _ => by simp⟩
  · simp
  · simp

theorem GSet.congr {w : World} {p : Nat} {G G' P : List Int} (h : GSet w p G P) (hg : ∀ x, x ∈ G' ↔ x ∈ G) : GSet w p G' P := by
  rcases h with ⟨F, h⟩ | ⟨F, g, C, T, h⟩
  · exact .inl ⟨F, h.set, h.le, h.occ, h.ent.congr hg⟩
  · exact .inr ⟨F, g, C, T, h.set, h.tab, h.pg, h.pow, h.half, h.most, h.least, h.hash, h.ent.congr hg⟩

theorem GSet.ext {w w' : World} {p : Nat} {G P : List Int} (h : GSet w p G P) (hb : Below w.heap.size w w') : GSet w' p G P := by
  rcases h with ⟨F, h⟩ | ⟨F, g, C, T, h⟩
  · exact .inl ⟨F, h.set.ext hb, h.le, h.occ, h.ent⟩
  · exact .inr ⟨F, g, C, T, h.set.ext hb, h.tab.ext hb, h.pg, h.pow, h.half, h.most, h.least, h.hash, h.ent⟩

theorem GSet.lt {w : World} {p : Nat} {G P : List Int} (h : GSet w p G P) : p < w.heap.size := by
  rcases h with ⟨F, h⟩ | ⟨F, g, C, T, h⟩
  · exact h.set.lt
  · exact h.set.lt

theorem mem_snoc_cons {zs : List Int} {k : Nat} (hk : k < zs.length) (x : Int) : x ∈ zs.take (k + 1) ↔ x ∈ zs.getD k 0 :: zs.take k := by
  rw [take_succ_getD zs k hk]
  simp [or_comm]

theorem below_step {w w1 w2 : World} (h : Below w.heap.size w w1) (h2 : Below w1.heap.size w1 w2) : Below w.heap.size w w2 := h.trans (h2.mono h.size)

set_option maxHeartbeats 1600000 in
theorem first_any (a : Option Addr) (cap : Nat) (zs : List Int) (w : World) (hs : Ints w a zs.length zs) (hn : a = none → zs = []) (hm : zs.length ≤ maxLen) :
    Calls Try.prog 8 #[.slice a zs.length cap] w fun e w' => e = .returned (.bool true) ∧ Below w.heap.size w w' := by
  unfold maxLen at hm
  by_cases hl : 4096 < zs.length
  · go_enter Try.func8, Try.ntmps8
    go_wp2_with fail
    refine (bytes26_any _ _ _ _).mono ?_
    rintro e w' ⟨⟨b, rfl⟩, rfl⟩
    cases b <;> (go_wp2_with fail; go_ret; exact ⟨rfl, Below.refl _ _⟩)
  · have hl2 : zs.length ≤ 4096 := by omega
    clear hl
    have k27 := fit_any a cap zs w hl2 hs
    have k28 := clone_any a cap zs w hl2 hs hn
    clear hs hn
    go_enter Try.func8, Try.ntmps8
    go_wp2_with fail
    refine (bytes26_any _ _ _ _).mono ?_
    rintro e w' ⟨⟨b, rfl⟩, rfl⟩
    cases b
    · go_wp2_with fail; go_ret; exact ⟨rfl, Below.refl _ _⟩
    go_wp2_with fail
    refine k27.mono ?_
    rintro e w' ⟨⟨b, rfl, hfit⟩, rfl⟩
    clear k27
    cases b
    · go_wp2_with fail; go_ret; exact ⟨rfl, Below.refl _ _⟩
    have hF := hfit rfl
    clear hfit
    go_wp2_with fail
    refine k28.mono ?_
    rintro e w2 ⟨a2, c2, rfl, hs2, hb2⟩
    clear k28
    have hst := gset_start w2
    unfold zeroSet at hst
    go_wp2_with fail
    go_loopw [4] (fun i wr => ∃ k : Nat, k ≤ zs.length ∧ i = .int .i64 k ∧ (∃ P, GSet wr w2.heap.size (zs.take k) P ∧ P.length ≤ k) ∧ Below w2.heap.size w2 wr) (fun i _ => zs.length - (intOf i).toNat)
    case atStart => exact ⟨0, Nat.zero_le _, rfl, ⟨[], hst, Nat.le_refl _⟩, (Below.refl _ _).alloc (Nat.le_refl _) _⟩
    case round =>
      clear hst
      obtain ⟨k, hk, rfl, ⟨P, hg, hPl⟩, hbr⟩ := hrel
      by_cases hlt : k < zs.length
      · have hsr := hs2.ext hbr
        obtain ⟨b, off, rfl, hcell⟩ := hsr.at k hlt
        have hz := hF _ (getD_mem zs k hlt)
        have hmem := mem_snoc_cons hlt
        obtain ⟨z, hze⟩ : ∃ z, z = zs.getD k 0 := ⟨_, rfl⟩
        rw [← hze] at hcell hz
        simp only [← hze] at hmem
        have HZ : Hid (z = zs.getD k 0) := hze
        have HM : Hid (∀ x, x ∈ zs.take (k + 1) ↔ x ∈ z :: zs.take k) := hmem
        clear hze hmem
        have k29 := addZ hg (by omega) z hz.1 hz.2
        obtain ⟨G, hG⟩ : ∃ G, G = zs.take k := ⟨_, rfl⟩
        rw [← hG] at k29
        have HG : Hid (G = zs.take k) := hG
        clear hG hg hF
        go_wp2_with fail
        refine k29.mono ?_
        rintro e w3 ⟨rfl, ⟨P3, hg3, hP3⟩, hb3⟩
        clear k29
        have hbr3 := hbr.trans hb3
        have hs3 := hs2.ext hbr3
        have hg3' : GSet w3 w2.heap.size (zs.take (k + 1)) P3 := hg3.congr (by rw [HG.out]; exact HM.out)
        clear hg3 hsr hbr hb3 hcell
        obtain ⟨got, hgot⟩ : ∃ got, got = !inI G z := ⟨_, rfl⟩
        rw [← hgot]
        have HGOT : Hid (got = !inI G z) := hgot
        clear hgot
        go_wp2_with fail
        go_loopw [6, 7] (fun s j wx => ∃ d : Nat, d ≤ k ∧ j = .int .i64 d ∧ s = .bool false ∧ z ∉ zs.take d ∧ Below w3.heap.size w3 wx) (fun _ j _ => k - (intOf j).toNat)
        case atStart => exact ⟨0, Nat.zero_le _, rfl, rfl, by simp, Below.refl _ _⟩
        case round =>
          obtain ⟨d, hd, rfl, rfl, hno, hbx⟩ := hrel
          have HN : Hid (z ∉ zs.take d) := hno
          clear hno
          by_cases hdk : d < k
          · obtain ⟨b1, off1, he1, hc1⟩ := (hs3.ext hbx).at d (by omega)
            obtain ⟨b2, off2, he2, hc2⟩ := (hs3.ext hbx).at k hlt
            cases he1
            cases he2
            rw [← HZ.out] at hc2
            obtain ⟨r, hr⟩ : ∃ r, r = zs.getD d 0 := ⟨_, rfl⟩
            rw [← hr] at hc1
            have HR : Hid (r = zs.getD d 0) := hr
            clear hr
            cases he : (r == z)
            · go_wp2
              go_region
              all_goals go_wp2
              all_goals go_roundw
              case rel => exact ⟨d + 1, by omega, by go_num, rfl, has_step (by omega) HR.out HN.out he, hbx.drew⟩
              case measure => simp [intOf]; omega
            · have hin : z ∈ zs.take k := mem_take_of hdk hlt (by rw [← HR.out]; exact eq_of_beqI he)
              obtain rfl : got = false := by rw [HGOT.out, HG.out, inI_true.2 hin]; rfl
              go_wp2
              go_region
              all_goals go_wp2
              all_goals go_roundw
              case rel => exact ⟨k + 1, by omega, by go_num, ⟨P3, hg3'.ext hbx.drew, by omega⟩, hbr3.trans (hbx.drew.mono (Nat.le_of_lt hg3'.lt))⟩
              case measure => simp [intOf]; omega
          · have hno : z ∉ zs.take k := by have := HN.out; rwa [show d = k by omega] at this
            obtain rfl : got = true := by rw [HGOT.out, HG.out, inI_false.2 hno]; rfl
            go_wp2
            go_roundw
            case rel => exact ⟨k + 1, by omega, by go_num, ⟨P3, hg3'.ext hbx, by omega⟩, hbr3.trans (hbx.mono (Nat.le_of_lt hg3'.lt))⟩
            case measure => simp [intOf]; omega
      · go_wp2
        go_ret
        exact ⟨rfl, below_step hb2 hbr⟩
end Go.Proofs.Qxb6601295a
