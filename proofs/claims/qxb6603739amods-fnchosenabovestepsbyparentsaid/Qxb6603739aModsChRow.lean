/- The arguments of the three rows, opened: a slice of strings, a slice of bools. -/
import Derived.Test.Qxb6603739aModsChLaws
import Derived.ProofKit
import Derived.SliceStrings
import Derived.Deep.Grids
namespace Go.Proofs.Qxb6603739aMods.Ch
open Go.ChangeShapes Go.WideShapes Go.ChangeAt Go.RowKit Go.Deep
set_option linter.unusedVariables false

theorem cells9 : Trym.prog.cellsOf 9 = 1 := by kernel_rfl
theorem cells4 : Trym.prog.cellsOf 4 = 1 := by kernel_rfl

theorem spot_none {w : World} {x : Addr} {v : Value} (h : w.cell? (x.add 0) = some v) : ∃ b off, x = ⟨b, off, none⟩ := by
  obtain ⟨b, off, spot⟩ := x
  have hspot : spot = none := by simpa [Addr.add] using World.cell?_spot h
  subst hspot
  exact ⟨b, off, rfl⟩

theorem strRow_of {H : Type} {enc : TypeId × Value → H} {w : World} {fuel : Nat} {a : Option Addr} {len cap : Nat} {x : DataW H × List MemPlace}
    (h : DataW.trod enc Trym.prog w 0 (fun _ => true) true fuel 22 [.slice a len cap] = some x) :
    len ≤ maxLen ∧ (a = none → len = 0 ∧ cap = 0) ∧ ∃ ks, StrRow w a len ks := by
  rcases open_strings Trym.underlying22 Trym.underlying9 cells9 h with ⟨hcs, _⟩ | ⟨y, l, c, ss, hcs, _, hl, hm, hz, _, hcell, hws⟩
  · simp at hcs
    obtain ⟨rfl, rfl, rfl⟩ := hcs
    exact ⟨Nat.zero_le _, fun _ => ⟨rfl, rfl⟩, fun _ => ByteArray.empty, fun k hk => by omega⟩
  · simp at hcs
    obtain ⟨rfl, rfl, rfl⟩ := hcs
    simp at hz
    refine ⟨by omega, fun h => (by cases h), fun k => ss.getD k ByteArray.empty, fun k hk => ?_⟩
    obtain ⟨b, off, rfl⟩ := spot_none (hcell 0 (by omega))
    have hc := hcell k (by omega)
    rw [add_plain] at hc
    refine ⟨b, off, rfl, World.block_lt_of_cell? (h := hc), hc, ?_⟩
    have hk' : k < ss.length := by omega
    dsimp only
    rw [show ss.getD k ByteArray.empty = ss[k] from by simp [hk']]
    exact hws _ (List.getElem_mem hk')

theorem boolRow_of {H : Type} {enc : TypeId × Value → H} {w : World} {fuel : Nat} {a : Option Addr} {len cap : Nat} {x : DataW H × List MemPlace}
    (h : DataW.trod enc Trym.prog w 0 (fun _ => true) true fuel 23 [.slice a len cap] = some x) : ∃ vs, BoolRow w a len vs := by
  rcases open_bools Trym.underlying23 Trym.underlying4 cells4 h with ⟨hcs, _⟩ | ⟨y, l, c, B, hcs, _, hl, hm, _, hcell⟩
  · simp at hcs
    obtain ⟨rfl, rfl, rfl⟩ := hcs
    exact ⟨fun _ => false, fun k hk => by omega, fun k _ => rfl⟩
  · simp at hcs
    obtain ⟨rfl, rfl, rfl⟩ := hcs
    refine ⟨fun k => if k < len then B k else false, fun k hk => ?_, fun k hk => if_neg (by omega)⟩
    obtain ⟨b, off, rfl⟩ := spot_none (hcell 0 (by omega))
    have hc := hcell k (by omega)
    rw [add_plain] at hc
    exact ⟨b, off, rfl, World.block_lt_of_cell? (h := hc), by dsimp only; rw [if_pos hk]; exact hc⟩
end Go.Proofs.Qxb6603739aMods.Ch
