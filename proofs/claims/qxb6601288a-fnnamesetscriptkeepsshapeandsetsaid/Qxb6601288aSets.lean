/-
  THE NAME SET IN MEMORY: a struct of two cells (a slice of names, a map of names), and what lies behind each.
-/
import Derived.Test.Qxb6601288aMakes
import Derived.Maps.OwnSet
namespace Go.Proofs.Qxb6601288a
open Go.RowKit Go.Maps

theorem law9 : Keyed Try.prog 9 := string_keyed Try.underlying9
theorem zero53 (w : World) : (zeroValue 53).run Try.prog w = .ok (.agg #[]) w := by kernel_rfl
theorem run_make50 (k : IntKind) (n : Int) (w : World) : (Instr.makeMap 50 (some (.int k n))).run Try.prog w = .ok (.map (some w.heap.size)) (w.alloc (.map #[] 0)) := by
  simp [Instr.makeMap, run_underlying Try.underlying50, asInt, asIntOf, Result.andThen]
theorem neNil50 (w : World) (r : Option Nat) : (binOp .neq 50 (.map r) (.map none)).run Try.prog w = .ok (.bool (!r.isNone)) w := run_neq_map_nil w 50 9 53 r Try.underlying50
theorem eqNil50 (w : World) (r : Option Nat) : (binOp .eql 50 (.map r) (.map none)).run Try.prog w = .ok (.bool r.isNone) w := run_eql_map_nil w 50 9 53 r Try.underlying50

/-! ### a set of names in a map -/
def keyL (s : ByteArray) : Lit := .string s.data.toList
theorem keyL_ne {s t : ByteArray} (h : s ≠ t) : keyL s ≠ keyL t := by
  intro e
  apply h
  cases s
  cases t
  simp [keyL] at e
  subst e
  rfl
theorem keyL_is (s : ByteArray) : WideAt.IsKeyLit (keyL s) := trivial
theorem keyOf9 {s : ByteArray} (h : s.size ≤ maxLen) : keyOf Try.prog 9 (.string s) = some (keyL s) := WideMaps.keyOf_string_mk Try.underlying9 h

/-- Block m of w is a map whose keys are the names L, each once. -/
def MapIs (w : World) (m : Nat) (L : List ByteArray) : Prop :=
  ∃ D : DataW Unit, w.ownsMap Try.prog 9 unitElem m L.length D ∧ (∀ s, Maps.has D (keyL s) = inB L s) ∧ Maps.size D = L.length ∧ L.Nodup

theorem tight {w : World} {m n : Nat} {D : DataW Unit} (h : w.ownsMap Try.prog 9 unitElem m n D) : w.ownsMap Try.prog 9 unitElem m (Maps.size D) D := by
  obtain ⟨es, clock, hb, F, _, rfl⟩ := h
  exact ⟨es, clock, hb, F, by simp [Maps.size, length_sorted], rfl⟩

theorem MapIs.made (w : World) : MapIs (w.alloc (.map #[] 0)) w.heap.size [] :=
  ⟨.map [], World.ownsMap_made w _ _ _, fun _ => rfl, rfl, List.nodup_nil⟩

theorem MapIs.lt {w : World} {m : Nat} {L : List ByteArray} (h : MapIs w m L) : m < w.heap.size := let ⟨_, h1, _⟩ := h; h1.lt

theorem MapIs.keep {w w' : World} {m : Nat} {L : List ByteArray} (h : MapIs w m L) (hb : w'.heap[m]? = w.heap[m]?) : MapIs w' m L := by
  obtain ⟨D, ⟨es, clock, h0, r⟩, h2⟩ := h
  exact ⟨D, ⟨es, clock, hb.trans h0, r⟩, h2⟩

theorem MapIs.put {w w' : World} {m : Nat} {L : List ByteArray} {D : DataW Unit} {s : ByteArray} (h0 : w.ownsMap Try.prog 9 unitElem m L.length D) (hh : ∀ s, Maps.has D (keyL s) = inB L s) (hz : Maps.size D = L.length) (hn : L.Nodup)
    (h1 : w'.ownsMap Try.prog 9 unitElem m (L.length + 1) (D.put (keyL s) (.agg []))) : MapIs w' m (addN L s) := by
  have hsz : Maps.size (D.put (keyL s) (.agg [])) = (addN L s).length := by
    rw [size_put (h0.tidy law9), hh s]
    unfold addN
    split <;> simp [hz]
  refine ⟨D.put (keyL s) (.agg []), by rw [← hsz]; exact tight h1, fun t => ?_, hsz, nodup_addN hn⟩
  by_cases e : t = s
  · subst e
    rw [has_put_same h0.isMap (keyL_is t)]
    exact (inB_true.2 (mem_addN.2 (.inr rfl))).symm
  · rw [has_put_other (keyL_ne e), hh t]
    exact inB_eq (by rw [mem_addN]; simp [e])

theorem length_without {L : List ByteArray} (s : ByteArray) : L.Nodup → (without L s).length + (if inB L s then 1 else 0) = L.length := by
  induction L with
  | nil => intro _; simp [without, inB]
  | cons a r ih =>
    intro h
    have h2 := List.nodup_cons.1 h
    have ih' := ih h2.2
    by_cases e : a = s
    · subst e
      have h0 : inB r a = false := inB_false.2 h2.1
      rw [h0] at ih'
      have h1 : inB (a :: r) a = true := inB_true.2 (by simp)
      rw [h1]
      have h3 : without (a :: r) a = without r a := by simp [without]
      rw [h3]
      simp at ih' ⊢
      omega
    · have h1 : inB (a :: r) s = inB r s := inB_eq (by simp [Ne.symm e])
      have h3 : without (a :: r) s = a :: without r s := by simp [without, e]
      rw [h1, h3]
      simp only [List.length_cons]
      omega

theorem MapIs.del {w w' : World} {m : Nat} {L : List ByteArray} {D : DataW Unit} {s : ByteArray} (h0 : w.ownsMap Try.prog 9 unitElem m L.length D) (hh : ∀ s, Maps.has D (keyL s) = inB L s) (hz : Maps.size D = L.length) (hn : L.Nodup)
    (h1 : w'.ownsMap Try.prog 9 unitElem m L.length (D.del (keyL s))) : MapIs w' m (without L s) := by
  have hsz : Maps.size (D.del (keyL s)) = (without L s).length := by
    have e1 := size_del (k := keyL s) (h0.tidy law9)
    have e2 := length_without s hn
    rw [hh s] at e1
    omega
  refine ⟨D.del (keyL s), by rw [← hsz]; exact tight h1, fun t => ?_, hsz, nodup_without hn⟩
  by_cases e : t = s
  · subst e
    rw [has_del_same]
    exact (inB_false.2 (by simp [mem_without])).symm
  · rw [has_del_other (keyL_ne e), hh t]
    exact inB_eq (by rw [mem_without]; simp [e])

section
variable (w : World) {ops : Array Oper} {rest : List Oper} {o : Oper} {a : Act} {Q : Exit → Act → World → Prop}

theorem wpList_set_put (hg : o.guard = none) (m x v : Operand) (hop : o.op = Op.mapUpdate 50 m x v) (b : Nat) (L : List ByteArray) (hm : a.eval m = .map (some b)) (hown : MapIs w b L) (hn : L.length < maxLen) (s : ByteArray) (hx : a.eval x = .string s) (hv : a.eval v = .agg #[]) (hs : s.size ≤ maxLen)
    (hK : ∀ w', MapIs w' b (addN L s) → w.grownBy w' (some b) → wpList Try.prog ops Q rest (a.put o.dst undef) w') : wpList Try.prog ops Q (o :: rest) a w := by
  obtain ⟨D, h0, hh, hz, hnd⟩ := hown
  exact wpList_mapUpdate_own w hg m x v 50 hop 9 53 law9 Try.underlying50 (unitElem (H := Unit)) b L.length D hm h0 hn (.string s) (.agg #[]) (keyL s) hx hv (keyOf9 hs) (.agg []) [] unitElem_mk (fun w' h1 h2 => hK w' (MapIs.put h0 hh hz hnd h1) h2)

theorem wpList_set_look (hg : o.guard = none) (m x : Operand) (hop : o.op = Op.lookup 50 m x true) (b : Nat) (L : List ByteArray) (hm : a.eval m = .map (some b)) (hown : MapIs w b L) (s : ByteArray) (hx : a.eval x = .string s) (hs : s.size ≤ maxLen)
    (hK : wpList Try.prog ops Q rest (a.put o.dst (.tuple #[.agg #[], .bool (inB L s)])) w) : wpList Try.prog ops Q (o :: rest) a w := by
  obtain ⟨D, h0, hh, hz, hnd⟩ := hown
  refine wpList_lookup_own_unit w hg m x 50 hop 9 53 law9 Try.underlying50 (zero53 w) b L.length D hm h0 (.string s) (keyL s) hx (keyOf9 hs) ?_
  rw [hh s]
  exact hK

theorem wpList_set_del (hg : o.guard = none) (m x : Operand) (hop : o.op = Op.call { callee := Callee.builtin Builtin.delete, args := #[m, x], argTypes := #[50, 9] }) (b : Nat) (L : List ByteArray) (hm : a.eval m = .map (some b)) (hown : MapIs w b L) (s : ByteArray) (hx : a.eval x = .string s) (hs : s.size ≤ maxLen)
    (hK : ∀ w', MapIs w' b (without L s) → w.grownBy w' (some b) → wpList Try.prog ops Q rest (a.put o.dst (.tuple #[])) w') : wpList Try.prog ops Q (o :: rest) a w := by
  obtain ⟨D, h0, hh, hz, hnd⟩ := hown
  exact wpList_delete_own w hg m x 50 9 hop 53 law9 Try.underlying50 (unitElem (H := Unit)) b L.length D hm h0 (.string s) (keyL s) hx (keyOf9 hs) (fun w' h1 h2 => hK w' (MapIs.del h0 hh hz hnd h1) h2.grown)

theorem wpList_set_len (hg : o.guard = none) (m : Operand) (hop : o.op = Op.call { callee := Callee.builtin Builtin.len, args := #[m], argTypes := #[50] }) (b : Nat) (L : List ByteArray) (hm : a.eval m = .map (some b)) (hown : MapIs w b L)
    (hK : wpList Try.prog ops Q rest (a.put o.dst (.int .i64 (L.length : Nat))) w) : wpList Try.prog ops Q (o :: rest) a w := by
  obtain ⟨D, h0, hh, hz, hnd⟩ := hown
  refine wpList_len_own w hg m 50 hop 9 53 Try.underlying50 (unitElem (H := Unit)) b L.length D hm h0 ?_
  rw [hz]
  exact hK
end
end Go.Proofs.Qxb6601288a
