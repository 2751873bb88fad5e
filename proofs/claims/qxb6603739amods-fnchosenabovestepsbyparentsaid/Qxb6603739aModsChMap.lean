/- A made map[Path]bool: what a look-up answers. -/
import Derived.Test.Qxb6603739aModsProg
import Derived.Test.Qxb6603739aModsChPlain
import Derived.WalkKit
import Derived.WalkSpells
import Derived.WalkSmall
import Derived.WalkLawsBesides
import Derived.Maps.OwnSet
namespace Go.Proofs.Qxb6603739aMods.Ch
open Go.RowKit Go.Maps Go.WideMaps
set_option linter.unusedVariables false
set_option linter.unusedSimpArgs false

theorem law : Keyed Trym.prog 29 := string_keyed Trym.underlying29
theorem zero4 (w : World) : (zeroValue 4).run Trym.prog w = .ok (.bool false) w := by kernel_rfl
theorem key29 {s : ByteArray} (h : s.size ≤ maxLen) : keyOf Trym.prog 29 (.string s) = some (.string s.data.toList) := keyOf_string_mk Trym.underlying29 h

/-- The map value v answers f. -/
def Look (w : World) (v : Value) (f : ByteArray → Bool) : Prop := ∀ s : ByteArray, s.size ≤ maxLen → (Instr.lookup 26 v (.string s) false).run Trym.prog w = .ok (.bool (f s)) w

theorem look_nil (w : World) : Look w (.map none) (fun _ => false) := fun s hs => by
  have := Maps.look_nil (w := w) false law Trym.underlying26 (zero4 w) (key29 hs)
  simpa using this

/-- Block b is a map of at most n entries that answers f. -/
def Tab (w : World) (b n : Nat) (f : ByteArray → Bool) : Prop :=
  ∃ D : DataW Unit, w.ownsMap Trym.prog 29 (plainElem Trym.prog 4) b n D ∧ ∀ s : ByteArray, D.atKey (.string s.data.toList) (.lit (.bool false)) = .lit (.bool (f s))

theorem plainElem_bool_inv {v : Value} {z : DataW Unit × List MemPlace} (h : plainElem Trym.prog 4 v = some z) : ∃ x, v = .bool x ∧ z = (.lit (.bool x), []) := by
  unfold plainElem at h
  rw [Trym.underlying4] at h
  cases v <;> simp at h
  exact ⟨_, rfl, h.symm⟩

theorem Tab.look {w : World} {b n : Nat} {f : ByteArray → Bool} (h : Tab w b n f) : Look w (.map (some b)) f := fun s hs => by
  obtain ⟨D, hown, hat⟩ := h
  obtain ⟨v, ps, hrun, hv⟩ := hown.lookup law Trym.underlying26 (zero4 w) (plainElem_bool Trym.underlying4 false) (key29 hs)
  obtain ⟨x, rfl, hx⟩ := plainElem_bool_inv hv
  rw [hat s] at hx
  simp only [Prod.mk.injEq, DataW.lit.injEq, Lit.bool.injEq] at hx
  rw [hrun, hx.1]
theorem tab_made (w : World) : Tab (w.alloc (.map #[] 0)) w.heap.size 0 (fun _ => false) := ⟨.map [], World.ownsMap_made _ _ _ _, fun s => rfl⟩

theorem data_ne {s k : ByteArray} (h : s ≠ k) : (Lit.string s.data.toList) ≠ Lit.string k.data.toList := fun e => by
  simp only [Lit.string.injEq] at e
  exact h (ByteArray.ext (Array.toList_inj.1 e))

/-- 'm[k] = x' at the operation. -/
theorem wpList_put (w : World) {ops : Array Oper} {rest : List Oper} {o : Oper} {a : Act} {Q : Exit → Act → World → Prop}
    (hg : o.guard = none) (m x v : Operand) (hop : o.op = Op.mapUpdate 26 m x v) (b n : Nat) (f : ByteArray → Bool) (hm : a.eval m = .map (some b)) (htab : Tab w b n f) (hn : n < maxLen)
    (k : ByteArray) (y : Bool) (hx : a.eval x = .string k) (hv : a.eval v = .bool y) (hk : k.size ≤ maxLen)
    (hK : ∀ w', Tab w' b (n + 1) (fun s => if s = k then y else f s) → w.grownBy w' (some b) → wpList Trym.prog ops Q rest (a.put o.dst undef) w') :
    wpList Trym.prog ops Q (o :: rest) a w := by
  obtain ⟨D, hown, hat⟩ := htab
  refine wpList_mapUpdate_own (H := Unit) w hg m x v 26 hop 29 4 law Trym.underlying26 _ b n D hm hown hn (.string k) (.bool y) (.string k.data.toList) hx hv (key29 hk) (.lit (.bool y)) [] (plainElem_bool Trym.underlying4 y) ?_
  intro w' hown' hgrow
  refine hK w' ⟨_, hown', fun s => ?_⟩ hgrow
  by_cases hs : s = k
  · subst hs
    dsimp only
    rw [if_pos rfl]
    exact atKey_put_same hown.isMap (law.key (key29 hk)) _ _
  · dsimp only
    rw [if_neg hs, atKey_put_other (data_ne hs), hat s]

theorem run_makeMap_hint (n : Nat) (w : World) : (Instr.makeMap 26 (some (.int .i64 (n : Int)))).run Trym.prog w = .ok (.map (some w.heap.size)) (w.alloc (.map #[] 0)) := by
  simp [Instr.makeMap, run_underlying Trym.underlying26, asInt, asIntOf, Result.andThen]
end Go.Proofs.Qxb6603739aMods.Ch
