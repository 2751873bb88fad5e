/- 'zzc := make([]byte, len(text)); copy(zzc, text)': as one law for the walk: the copy lies in a new block of its own. -/
import Derived.Test.Qxb6603083aModsTxPlain
import Derived.Laws.CopyOwn
import Derived.Deep.OwnRows
namespace Go.Proofs.Qxb6603083aMods.Tx
open Go.RowKit
set_option linter.unusedVariables false
set_option linter.unusedSimpArgs false

theorem text_of_row {w : World} {g n : Nat} {z : List Int} (hz : n ≤ z.length) {L : List Value} (hL : L = (z.take n).map (Value.int .u8)) (h : w.heap[g]? = some (.cells L.toArray 5 (0, 0))) :
    TextAt w g 0 n (fun k => z.getD k 0) := fun k hk => by
  subst hL
  have hk' : k < z.length := by omega
  simp [World.cell?, h, hk, hk']

/-- 'copy(zzc, text)' behind 'zzc := make([]byte, len(text))': what it leaves, the world a letter. -/
theorem copy_run {P : Program} (w : World) (ty : TypeId) (hu : P.underlying 22 = some (.slice 5)) (hsz : (P.info? 5).map (·.size) = some 1)
    (n cap : Nat) (x : Addr) (z : List Int) (hz : n ≤ z.length) (hcell : ∀ i, i < n → w.cell? (x.add i) = some (.int .u8 (z.getD i 0))) :
    ∃ w2, (Builtin.copy_ #[22, 22] ty #[.slice (some ⟨w.heap.size, 0, none⟩) n n, .slice (some x) n cap]).run P (w.alloc (.cells (madeCells #[.int .u8 0] n) 5)) = .ok (goInt n) w2 ∧
      TextAt w2 w.heap.size 0 n (fun k => z.getD k 0) ∧ Below w.heap.size w w2 ∧ w.heap.size < w2.heap.size := by
  have hlen : ((z.take n).map (Value.int .u8)).length = n := by simp; omega
  have hb0 : Below w.heap.size w (w.alloc (.cells (madeCells #[.int .u8 0] n) 5)) := (Below.refl _ _).alloc (Nat.le_refl _) _
  by_cases h0 : n = 0
  · subst h0
    refine ⟨_, run_copy_none (P := P) _ 22 22 ty 5 _ _ 0 0 0 cap hu hsz rfl, fun k hk => by omega, hb0, ?_⟩
    simp
  · have hr := run_copy_row (P := P) (w.alloc (.cells (madeCells #[.int .u8 0] n) 5)) 22 22 ty 5 w.heap.size 0 n n x n cap (madeCells #[.int .u8 0] n) 5 ((z.take n).map (Value.int .u8)) hu hsz (heap_alloc_new _ _)
      (by rw [hlen]; exact (Nat.min_self n).symm)
      (fun j v hj => by
        have hjn : j < n := by
          rcases Nat.lt_or_ge j n with h | h
          · exact h
          · rw [List.getElem?_eq_none (by omega)] at hj; cases hj
        have hjz : j < z.length := by omega
        have hv : v = .int .u8 (z.getD j 0) := by
          simp [List.getElem?_map, List.getElem?_take, hjn, hjz] at hj
          rw [← hj]; simp [hjz]
        rw [hv]
        have := hcell j hjn
        rw [hb0.cell (World.block_lt_of_cell? (h := this))]
        exact this)
      (by rw [hlen, size_madeCells]; omega)
      (fun v hv => by obtain ⟨y, _, rfl⟩ := List.mem_map.1 hv; rfl)
    rw [hlen] at hr
    refine ⟨_, hr, ?_, below_setRow hb0 (Nat.le_refl _) _, ?_⟩
    · refine text_of_row hz (L := List.take 0 (madeCells #[Value.int .u8 0] n).toList ++ (z.take n).map (Value.int .u8) ++ (madeCells #[Value.int .u8 0] n).toList.drop (0 + n)) ?_ (setRow_heap _ _ _ _ 5 _ (heap_alloc_new _ _))
      rw [List.drop_eq_nil_of_le (by rw [Array.length_toList, size_madeCells]; omega)]
      simp
    · have := (below_setRow hb0 (Nat.le_refl _) (List.take 0 (madeCells #[Value.int .u8 0] n).toList ++ (z.take n).map (Value.int .u8) ++ (madeCells #[Value.int .u8 0] n).toList.drop (0 + n)).toArray).size
      simp [World.setRow]
end Go.Proofs.Qxb6603083aMods.Tx
