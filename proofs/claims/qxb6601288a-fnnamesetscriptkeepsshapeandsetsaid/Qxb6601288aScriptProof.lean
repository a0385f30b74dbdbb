/-
  THE LAW ON A SCRIPT, PROVED.
-/
import Derived.Test.Qxb6601288aScript
import Derived.Test.Qxb6601288aOpens
import Derived.OpenShut
namespace Go.Proofs.Qxb6601288a.fnNameSetScriptKeepsShapeAndSet
open Go.ChangeShapes Go.WideShapes Go.ChangeAt Go.RowKit
open Go.ChangeMaps (open_string shut_string)
set_option linter.unusedVariables false

/-- The bool in a datum that is one. -/
def boolOf {H : Type} (y : DataW H × List MemPlace) : Bool := match y.1 with | .lit (.bool b) => b | _ => false

theorem openedB {H : Type} {enc : TypeId × Value → H} {W : World} {fuel : Nat} {a : Option Addr} {len cap : Nat} {x : DataW H × List MemPlace}
    (h : DataW.trod enc Try.prog W 0 (fun _ => true) true fuel 35 [.slice a len cap] = some x) :
    ∃ bs, len = bs.length ∧ Bools W a bs.length bs ∧ (a = none → bs = []) ∧ bs.length ≤ maxLen := by
  rcases DataW.trod_slice Try.underlying35 h with ⟨hcs, _⟩ | ⟨y, l, c, elems, rest, n, _, hcs, _, hb, hl, hm, hlen, hel, hsp, hns⟩
  · cases hcs
    exact ⟨[], rfl, ⟨rfl, .inl rfl⟩, fun _ => rfl, by simp⟩
  · cases hcs
    have each : ∀ i, i < len → W.cell? (y.add i) = some (.bool ((elems.map boolOf).getD i false)) := by
      intro i hi
      have h1 := hel i hi
      obtain ⟨z, hz⟩ : ∃ z, elems[i]? = some z := ⟨elems[i]'(by omega), by simp [show i < elems.length by omega]⟩
      rw [cells4, Nat.mul_one, hz, Option.bind_eq_some_iff] at h1
      obtain ⟨cs', hcs, hy'⟩ := h1
      obtain ⟨b, rfl, rfl⟩ := DataW.trod_bool Try.underlying4 hy'
      rw [cell_of_cells?_one hcs]
      simp [List.getD, hz, boolOf]
    have hlen2 : (elems.map boolOf).length = len := by simp [hlen]
    refine ⟨elems.map boolOf, hlen2.symm, ⟨rfl, ?_⟩, (fun e => by cases e), by omega⟩
    by_cases h0 : len = 0
    · left
      exact List.length_eq_zero_iff.1 (by omega)
    · right
      obtain ⟨b, off, spot⟩ := y
      have hspot : spot = none := by simpa [Addr.add] using World.cell?_spot (each 0 (by omega))
      subst hspot
      refine ⟨b, off, rfl, fun i hi => ?_⟩
      rw [← add_plain]
      exact each i (by omega)

theorem walk (a0 a1 : Option Addr) (cap0 cap1 : Nat) (s0 : List ByteArray) (bs : List Bool) (w : World) (h0 : Strs w a0 s0.length s0) (h1 : Bools w a1 bs.length bs) (hn0 : a0 = none → s0 = [] ∧ cap0 = 0) (hn1 : a1 = none → bs = [])
    (hm0 : s0.length ≤ maxLen) (hm1 : bs.length ≤ maxLen) (hs0 : ∀ s ∈ s0, s.size ≤ maxLen) :
    Calls Try.prog 5 #[.slice a0 s0.length cap0, .slice a1 bs.length cap1] w fun e w' => e = .returned (.bool true) ∧ Below w.heap.size w w' := by
  by_cases hf : 4096 < s0.length ∨ 4096 < bs.length
  · exact script_far a0 a1 cap0 cap1 s0 bs.length w h0 hm0 hm1 hf
  · exact script_near a0 a1 cap0 cap1 s0 bs w h0 h1 (fun e => (hn0 e).1) hn1 (by omega) (by omega) hs0

set_option maxRecDepth 100000 in
theorem lifted (os : Os) (started : os.Started) (H : Type) (enc : TypeId × Value → H) :
    ReturnsInHanded {} Try.checked os 5 .any (Rows.fnNameSetScriptKeepsShapeAndSetSpec.pre6 enc Try.prog Try.f5 Rows.fnNameSetScriptKeepsShapeAndSetRow.domain false) (Rows.fnNameSetScriptKeepsShapeAndSetSpec.post enc Try.prog Try.f5 false true false false) := by
  refine returnsInHanded_of_change (C := Try.checked) own started (by kernel_rfl) Try.func5
    (ChangeSpec.witness6 (enc := enc) (C := Try.checked) false ⟨#[], #[.slice none 0 0, .slice none 0 0], []⟩ 8 (by kernel_rfl) (by kernel_rfl) (by kernel_rfl) (by kernel_rfl)) ?_
  intro W base args ds gs before hval0 hW hcnd _
  have hval : ∀ (j : Nat) t v, Try.f5.params[j]? = some t → args[j]? = some v → Value.okWide Try.prog W .any base t v := hval0
  have hW' := hW
  obtain ⟨p, q, hA0, hV, rfl, hfz, hnd⟩ := hW
  have hA : DataW.TrodAll enc Try.prog W 0 (fun _ => true) true Try.f5.params.toList args.toList ds p := hA0
  rw [Try.params5] at hA hval
  obtain ⟨v0, vs0, d0, ds0, p0, q0, hargs, rfl, rfl, h0, r0⟩ := trodAll_cons hA
  obtain ⟨v1, vs1, d1, ds1, p1, q1, rfl, rfl, rfl, h1, r1⟩ := trodAll_cons r0
  obtain ⟨rfl, rfl, rfl⟩ := trodAll_nil r1
  obtain rfl : args = #[v0, v1] := by cases args; simp_all
  obtain ⟨rfl, rfl⟩ := trodVars_none hV
  obtain ⟨a0, len0, cap0, rfl⟩ := okWide_slice Try.underlying22 (hval 0 22 v0 rfl rfl)
  obtain ⟨a1, len1, cap1, rfl⟩ := okWide_slice Try.underlying35 (hval 1 35 v1 rfl rfl)
  have k0 := h0
  have k1 := h1
  have lt0 : ∀ x ∈ p0, x.block < W.heap.size := by obtain ⟨m, hm⟩ := k0; exact DataW.trod_lt m _ _ _ hm
  have lt1 : ∀ x ∈ p1, x.block < W.heap.size := by obtain ⟨m, hm⟩ := k1; exact DataW.trod_lt m _ _ _ hm
  obtain ⟨s0, rfl, t0, n0, m0, z0⟩ : ∃ ss, len0 = ss.length ∧ Strs W a0 ss.length ss ∧ (a0 = none → ss = [] ∧ cap0 = 0) ∧ ss.length ≤ maxLen ∧ ∀ s ∈ ss, s.size ≤ maxLen := by
    obtain ⟨fuel, hf⟩ := h0
    exact opened (by simpa [Value.cells] using hf)
  obtain ⟨bs, rfl, t1, n1, m1⟩ : ∃ bs, len1 = bs.length ∧ Bools W a1 bs.length bs ∧ (a1 = none → bs = []) ∧ bs.length ≤ maxLen := by
    obtain ⟨fuel, hf⟩ := h1
    exact openedB (by simpa [Value.cells] using hf)
  clear hA0 hval0
  refine (walk a0 a1 cap0 cap1 s0 bs W t0 t1 n0 n1 m0 m1 z0).mono fun e W' ⟨he, bel⟩ => ?_
  subst he
  exact ⟨_, rfl, _, _, _, [], _, [], hW', trodAll_mk1 (shut_bool Try.underlying4 _), (trodAll_cons_mk (Below.trod laidOut (by kernel_rfl) (of_decide_eq_true (by kernel_rfl)) k0 bel lt0) (trodAll_cons_mk (Below.trod laidOut (by kernel_rfl) (of_decide_eq_true (by kernel_rfl)) k1 bel lt1) trodAll_mk0)), rfl, bel.frame _, fun h => by cases h⟩

theorem over : Rows.fnNameSetScriptKeepsShapeAndSetRow.holds Try.pinned (OpenSpec.ofChange Rows.fnNameSetScriptKeepsShapeAndSetSpec) :=
  OpenClaim.holds_of_wide 5 Try.f5 rfl rfl rfl rfl rfl rfl rfl ⟨rfl, rfl, rfl, rfl, rfl⟩ rfl rfl rfl rfl rfl (by kernel_rfl) Try.func5 (by kernel_rfl)
    (of_decide_eq_true (by kernel_rfl)) (by unfold Func.isWrapper; first | (rw [if_pos (by decide +kernel)]; kernel_rfl) | (rw [if_neg (by decide +kernel)]; exact ⟨rfl, rfl⟩))
    (fun os started H enc _ => lifted os started H enc)

theorem proved : Rows.FnNameSetScriptKeepsShapeAndSetSaid := over
end Go.Proofs.Qxb6601288a.fnNameSetScriptKeepsShapeAndSet
