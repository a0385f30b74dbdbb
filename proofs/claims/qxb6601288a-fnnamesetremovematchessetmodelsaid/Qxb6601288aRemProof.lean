/-
  THE LAW ON remove, PROVED.
-/
import Derived.Test.Qxb6601288aRemMap
import Derived.Test.Qxb6601288aOpens
import Derived.OpenShut
namespace Go.Proofs.Qxb6601288a.fnNameSetRemoveMatchesSetModel
open Go.ChangeShapes Go.WideShapes Go.ChangeAt Go.RowKit
open Go.ChangeMaps (open_string shut_string)
set_option linter.unusedVariables false

theorem walk (a0 a1 : Option Addr) (cap0 cap1 : Nat) (s0 s1 : List ByteArray) (x : ByteArray) (w : World) (h0 : Strs w a0 s0.length s0) (h1 : Strs w a1 s1.length s1) (hn0 : a0 = none → s0 = [] ∧ cap0 = 0) (hn1 : a1 = none → s1 = [] ∧ cap1 = 0)
    (hm0 : s0.length ≤ maxLen) (hm1 : s1.length ≤ maxLen) (hs0 : ∀ s ∈ s0, s.size ≤ maxLen) (hs1 : ∀ s ∈ s1, s.size ≤ maxLen) :
    Calls Try.prog 4 #[.slice a0 s0.length cap0, .slice a1 s1.length cap1, .string x] w fun e w' => e = .returned (.bool true) ∧ Below w.heap.size w w' := by
  by_cases hf : 4096 < s0.length ∨ 4096 < s1.length ∨ 65536 < x.size
  · exact remove_far a0 a1 cap0 cap1 s0 s1 x w h0 h1 hm0 hm1 hf
  · have hl0 : s0.length ≤ 4096 := by omega
    have hl1 : s1.length ≤ 4096 := by omega
    have hlx : x.size ≤ 65536 := by omega
    cases a1 with
    | none =>
      obtain ⟨rfl, rfl⟩ := hn1 rfl
      exact remove_nil a0 cap0 s0 x w h0 (fun e => (hn0 e).1) hl0 hlx hs0
    | some x1 =>
      cases a0 with
      | none =>
        obtain ⟨rfl, rfl⟩ := hn0 rfl
        exact remove_map x1 cap1 s1 x w h1 hl1 hlx hs1
      | some x0 => exact remove_both x0 x1 cap0 cap1 s0 s1 x w h0 h1 hl0 hl1 hlx

set_option maxRecDepth 100000 in
theorem lifted (os : Os) (started : os.Started) (H : Type) (enc : TypeId × Value → H) :
    ReturnsInHanded {} Try.checked os 4 .any (Rows.fnNameSetRemoveMatchesSetModelSpec.pre6 enc Try.prog Try.f4 Rows.fnNameSetRemoveMatchesSetModelRow.domain false) (Rows.fnNameSetRemoveMatchesSetModelSpec.post enc Try.prog Try.f4 false true false false) := by
  refine returnsInHanded_of_change (C := Try.checked) own started (by kernel_rfl) Try.func4
    (ChangeSpec.witness6 (enc := enc) (C := Try.checked) false ⟨#[], #[.slice none 0 0, .slice none 0 0, .string ByteArray.empty], []⟩ 8 (by kernel_rfl) (by kernel_rfl) (by kernel_rfl) (by kernel_rfl)) ?_
  intro W base args ds gs before hval0 hW hcnd _
  have hval : ∀ (j : Nat) t v, Try.f4.params[j]? = some t → args[j]? = some v → Value.okWide Try.prog W .any base t v := hval0
  have hW' := hW
  obtain ⟨p, q, hA0, hV, rfl, hfz, hnd⟩ := hW
  have hA : DataW.TrodAll enc Try.prog W 0 (fun _ => true) true Try.f4.params.toList args.toList ds p := hA0
  rw [Try.params4] at hA hval
  obtain ⟨v0, vs0, d0, ds0, p0, q0, hargs, rfl, rfl, h0, r0⟩ := trodAll_cons hA
  obtain ⟨v1, vs1, d1, ds1, p1, q1, rfl, rfl, rfl, h1, r1⟩ := trodAll_cons r0
  obtain ⟨v2, vs2, d2, ds2, p2, q2, rfl, rfl, rfl, h2, r2⟩ := trodAll_cons r1
  obtain ⟨rfl, rfl, rfl⟩ := trodAll_nil r2
  obtain rfl : args = #[v0, v1, v2] := by cases args; simp_all
  obtain ⟨rfl, rfl⟩ := trodVars_none hV
  obtain ⟨a0, len0, cap0, rfl⟩ := okWide_slice Try.underlying22 (hval 0 22 v0 rfl rfl)
  obtain ⟨a1, len1, cap1, rfl⟩ := okWide_slice Try.underlying22 (hval 1 22 v1 rfl rfl)
  obtain ⟨x, rfl, rfl, rfl, hx⟩ := open_string Try.underlying9 (hval 2 9 v2 rfl rfl) h2
  have k0 := h0
  have k1 := h1
  have lt0 : ∀ x ∈ p0, x.block < W.heap.size := by obtain ⟨m, hm⟩ := k0; exact DataW.trod_lt m _ _ _ hm
  have lt1 : ∀ x ∈ p1, x.block < W.heap.size := by obtain ⟨m, hm⟩ := k1; exact DataW.trod_lt m _ _ _ hm
  obtain ⟨s0, rfl, t0, n0, m0, z0⟩ : ∃ ss, len0 = ss.length ∧ Strs W a0 ss.length ss ∧ (a0 = none → ss = [] ∧ cap0 = 0) ∧ ss.length ≤ maxLen ∧ ∀ s ∈ ss, s.size ≤ maxLen := by
    obtain ⟨fuel, hf⟩ := h0
    exact opened (by simpa [Value.cells] using hf)
  obtain ⟨s1, rfl, t1, n1, m1, z1⟩ : ∃ ss, len1 = ss.length ∧ Strs W a1 ss.length ss ∧ (a1 = none → ss = [] ∧ cap1 = 0) ∧ ss.length ≤ maxLen ∧ ∀ s ∈ ss, s.size ≤ maxLen := by
    obtain ⟨fuel, hf⟩ := h1
    exact opened (by simpa [Value.cells] using hf)
  clear hA0 hval0
  refine (walk a0 a1 cap0 cap1 s0 s1 x W t0 t1 n0 n1 m0 m1 z0 z1).mono fun e W' ⟨he, bel⟩ => ?_
  subst he
  exact ⟨_, rfl, _, _, _, [], _, [], hW', trodAll_mk1 (shut_bool Try.underlying4 _), (trodAll_cons_mk (Below.trod laidOut (by kernel_rfl) (of_decide_eq_true (by kernel_rfl)) k0 bel lt0) (trodAll_cons_mk (Below.trod laidOut (by kernel_rfl) (of_decide_eq_true (by kernel_rfl)) k1 bel lt1) (trodAll_cons_mk (shut_string Try.underlying9 hx) trodAll_mk0))), rfl, bel.frame _, fun h => by cases h⟩

theorem over : Rows.fnNameSetRemoveMatchesSetModelRow.holds Try.pinned (OpenSpec.ofChange Rows.fnNameSetRemoveMatchesSetModelSpec) :=
  OpenClaim.holds_of_wide 4 Try.f4 rfl rfl rfl rfl rfl rfl rfl ⟨rfl, rfl, rfl, rfl, rfl⟩ rfl rfl rfl rfl rfl (by kernel_rfl) Try.func4 (by kernel_rfl)
    (of_decide_eq_true (by kernel_rfl)) (by unfold Func.isWrapper; first | (rw [if_pos (by decide +kernel)]; kernel_rfl) | (rw [if_neg (by decide +kernel)]; exact ⟨rfl, rfl⟩))
    (fun os started H enc _ => lifted os started H enc)

theorem proved : Rows.FnNameSetRemoveMatchesSetModelSaid := over
end Go.Proofs.Qxb6601288a.fnNameSetRemoveMatchesSetModel
