/-
  A proof of 'Rows.FnPlainScalarMatchesFirstStopModelSaid'. The frame ('lifted', 'over', 'proved') is the given shell's; the walk is ours.
-/
import Derived.Test.Qxb6603083aModsRows
import Derived.Test.Qxb6603083aModsPsModel
import Derived.Test.Qxb6603083aModsTxCopy
import Derived.WalkKit
import Derived.ProofKit
import Derived.OpenShut
import Derived.ShutString
import Derived.ChangeOld
import Derived.Below
namespace Go.Proofs.Qxb6603083aMods.fnPlainScalarMatchesFirstStopModel
open Go.ChangeShapes Go.WideShapes Go.ChangeAt Go.RowKit
open Go.ChangeMaps (open_string shut_string)
set_option linter.unusedVariables false

theorem own : ownKnob Trym.prog.godebug = none := by kernel_rfl
theorem laidOut : laidOutB Trym.prog = true := by kernel_rfl

/-- WHAT THE WALK IS TOLD OF A SLICE OF INTEGERS THAT CAME IN: it is nil; or it leads to a row of 'cap' cells, the numbers 'zs' (the first 'len' are its elements, the rest its spare room), each fitting its kind. -/
def IsRow (k : IntKind) (w : World) (a : Option Addr) (len cap : Nat) (zs : List Int) : Prop :=
  (a = none ∧ len = 0 ∧ cap = 0 ∧ zs = []) ∨
  ∃ x, a = some x ∧ len ≤ cap ∧ cap ≤ maxLen ∧ zs.length = cap ∧ (∀ i, i < zs.length → w.cell? (x.add i) = some (.int k (zs.getD i 0))) ∧ ∀ n ∈ zs, (Lit.int k n).wf = true

theorem info5 : (Trym.prog.info? 5).map (fun i => (i.zero, i.size, i.bytes)) = some (some (.int .u8 0), 1, 1) := by kernel_rfl

set_option maxRecDepth 20000 in
set_option maxHeartbeats 1000000 in
theorem mod_in (x : Addr) (n cap : Nat) (z : List Int) (i : Nat) (w : World) (hn : (n : Int) ≤ 1048576) (hi : i < n) (hz : n ≤ z.length) (hcell : ∀ k, k < n → w.cell? (x.add k) = some (.int .u8 (z.getD k 0))) :
    Calls Trym.prog 5 #[.slice (some x) n cap, .int .i64 i] w fun e w' => e = .returned (.bool true) ∧ Below w.heap.size w w' := by
  have hneq := fun wx => run_neq_slice_nil_any (P := Trym.prog) wx 22 5 (some x) n cap 0 0 Trym.underlying22
  have hmk := fun wx => run_make_row' (P := Trym.prog) 22 5 (.int .u8 0) 1 Trym.underlying22 info5 rfl .i64 .i64 n (by omega) (by omega) wx
  obtain ⟨w2, hcp, ht2, hb2, hs2⟩ := Tx.copy_run (P := Trym.prog) w 3 Trym.underlying22 (by kernel_rfl) n cap x z hz hcell
  clear hcell
  have h0 : ¬ (i : Int) < 0 := by omega
  go_enter Trym.func5, Trym.ntmps5
  go_wp2_with (go_at_call 14; refine (Tx.bytes14_yes _ _ _ _ hn _).mono ?_; rintro e w' ⟨rfl, rfl⟩)
  refine (Tx.zzplain_in w.heap.size 0 n n i _ hn (by omega) w2 ht2).mono ?_
  rintro r w3 ⟨⟨e, s, c, rfl, hps⟩, rfl⟩
  clear hneq hmk hcp
  have HP := Tx.hid hps
  clear hps
  go_wp2_with fail
  refine (Tx.model_in w.heap.size 0 n n i _ hn hi w2 ht2).mono ?_
  rintro r w3 ⟨⟨e2, s2, c2, rfl, hps2⟩, rfl⟩
  obtain ⟨q1, q2, q3⟩ := Tx.PS_one HP.out hps2
  subst q1 q2 q3
  clear hps2 HP ht2
  go_wp2
  go_ret
  exact ⟨rfl, hb2⟩

set_option maxRecDepth 20000 in
set_option maxHeartbeats 1000000 in
theorem mod_past (x : Addr) (n cap : Nat) (z : List Int) (i : Int) (w : World) (hn : (n : Int) ≤ 1048576) (hi : (n : Int) ≤ i) (hz : n ≤ z.length) (hcell : ∀ k, k < n → w.cell? (x.add k) = some (.int .u8 (z.getD k 0))) :
    Calls Trym.prog 5 #[.slice (some x) n cap, .int .i64 i] w fun e w' => e = .returned (.bool true) ∧ Below w.heap.size w w' := by
  have hneq := fun wx => run_neq_slice_nil_any (P := Trym.prog) wx 22 5 (some x) n cap 0 0 Trym.underlying22
  have hmk := fun wx => run_make_row' (P := Trym.prog) 22 5 (.int .u8 0) 1 Trym.underlying22 info5 rfl .i64 .i64 n (by omega) (by omega) wx
  obtain ⟨w2, hcp, ht2, hb2, hs2⟩ := Tx.copy_run (P := Trym.prog) w 3 Trym.underlying22 (by kernel_rfl) n cap x z hz hcell
  clear hcell ht2
  have h0 : ¬ i < 0 := by omega
  go_enter Trym.func5, Trym.ntmps5
  go_wp2_with (first | (go_at_call 14; refine (Tx.bytes14_yes _ _ _ _ hn _).mono ?_; rintro e w' ⟨rfl, rfl⟩) | (go_at_call 15; refine (Tx.zzplain_past _ _ _ _ hi _).mono ?_; rintro e w' ⟨rfl, rfl⟩) | (go_at_call 16; refine (Tx.model_past _ _ _ _ hn hi _).mono ?_; rintro e w' ⟨rfl, rfl⟩))
  go_ret
  exact ⟨rfl, hb2⟩

set_option maxRecDepth 20000 in
set_option maxHeartbeats 1000000 in
theorem mod_nil (i : Int) (hi : 0 ≤ i) (w : World) :
    Calls Trym.prog 5 #[.slice none 0 0, .int .i64 i] w fun e w' => e = .returned (.bool true) ∧ Below w.heap.size w w' := by
  have hneq := fun wx => run_neq_slice_nil_any (P := Trym.prog) wx 22 5 none 0 0 0 0 Trym.underlying22
  have h0 : ¬ i < 0 := by omega
  go_enter Trym.func5, Trym.ntmps5
  go_wp2_with (first | (go_at_call 14; refine (Tx.bytes14_yes _ _ _ _ (by decide) _).mono ?_; rintro e w' ⟨rfl, rfl⟩) | (go_at_call 15; refine (Tx.zzplain_past _ 0 _ _ (by exact hi) _).mono ?_; rintro e w' ⟨rfl, rfl⟩) | (go_at_call 16; refine (Tx.model_past _ 0 _ _ (by decide) (by exact hi) _).mono ?_; rintro e w' ⟨rfl, rfl⟩))
  go_ret
  exact ⟨rfl, Below.refl _ _⟩

set_option maxRecDepth 20000 in
set_option maxHeartbeats 1000000 in
theorem mod_long (a : Option Addr) (n cap : Nat) (i : Int) (hn : (1048576 : Int) < n) (w : World) :
    Calls Trym.prog 5 #[.slice a n cap, .int .i64 i] w fun e w' => e = .returned (.bool true) ∧ Below w.heap.size w w' := by
  go_enter Trym.func5, Trym.ntmps5
  go_wp2_with (go_at_call 14; refine (Tx.bytes14_no _ _ _ _ hn _).mono ?_; rintro e w' ⟨rfl, rfl⟩)
  go_ret
  exact ⟨rfl, Below.refl _ _⟩

set_option maxRecDepth 20000 in
set_option maxHeartbeats 1000000 in
theorem mod_out (a : Option Addr) (n cap : Nat) (i : Int) (hn : (n : Int) ≤ 1048576) (hi : i < 0) (w : World) :
    Calls Trym.prog 5 #[.slice a n cap, .int .i64 i] w fun e w' => e = .returned (.bool true) ∧ Below w.heap.size w w' := by
  go_enter Trym.func5, Trym.ntmps5
  go_wp2_with (go_at_call 14; refine (Tx.bytes14_yes _ _ _ _ hn _).mono ?_; rintro e w' ⟨rfl, rfl⟩)
  go_ret
  exact ⟨rfl, Below.refl _ _⟩

/-! ### THE WALK: the Go text returns true, and writes nothing that was there -/
theorem walk (a0 : Option Addr) (len0 cap0 : Nat) (z0 : List Int) (a1 : Int) (w : World) (w0 : IsRow .u8 w a0 len0 cap0 z0) (w1 : (Lit.int .i64 a1).wf = true) :
    Calls Trym.prog 5 #[.slice a0 len0 cap0, .int .i64 a1] w fun e w' => e = .returned (.bool true) ∧ Below w.heap.size w w' := by
  have hb1 := bounds_i64 w1
  by_cases hl : (1048576 : Int) < len0
  · exact mod_long a0 len0 cap0 a1 hl w
  by_cases hd : a1 < 0
  · exact mod_out a0 len0 cap0 a1 (by omega) hd w
  rcases w0 with ⟨rfl, rfl, rfl, rfl⟩ | ⟨x, rfl, hlc, hm, hzl, hcell, hwz⟩
  · exact mod_nil a1 (by omega) w
  by_cases hi : (len0 : Int) ≤ a1
  · exact mod_past x len0 cap0 z0 a1 w (by omega) hi (by omega) (fun k hk => hcell k (by omega))
  · obtain ⟨i, rfl⟩ : ∃ i : Nat, a1 = i := ⟨a1.toNat, by omega⟩
    exact mod_in x len0 cap0 z0 i w (by omega) (by omega) (by omega) (fun k hk => hcell k (by omega))

/-! ### THE ROW's STEP -/
set_option maxRecDepth 100000 in
theorem lifted (os : Os) (started : os.Started) (H : Type) (enc : TypeId × Value → H) :
    ReturnsInHanded {} Trym.checked os 5 .any (Rows.fnPlainScalarMatchesFirstStopModelSpec.pre6 enc Trym.prog Trym.f5 Rows.fnPlainScalarMatchesFirstStopModelRow.domain false) (Rows.fnPlainScalarMatchesFirstStopModelSpec.post enc Trym.prog Trym.f5 false true false false) := by
  refine returnsInHanded_of_change (C := Trym.checked) own started (by kernel_rfl) Trym.func5
    (ChangeSpec.witness6 (enc := enc) (C := Trym.checked) false ⟨#[], #[.slice none 0 0, .int .i64 0], []⟩ 8 (by kernel_rfl) (by kernel_rfl) (by kernel_rfl) (by kernel_rfl)) ?_
  intro W base args ds gs before hval0 hW hcnd _
  have hval : ∀ (j : Nat) t v, Trym.f5.params[j]? = some t → args[j]? = some v → Value.okWide Trym.prog W .any base t v := hval0
  have hW' := hW
  obtain ⟨p, q, hA0, hV, rfl, hfz, hnd⟩ := hW
  have hA : DataW.TrodAll enc Trym.prog W 0 (fun _ => true) true Trym.f5.params.toList args.toList ds p := hA0
  rw [Trym.params5] at hA hval
  obtain ⟨v0, vs0, d0, ds0, p0, q0, hargs, rfl, rfl, h0, r0⟩ := trodAll_cons hA
  obtain ⟨v1, vs1, d1, ds1, p1, q1, rfl, rfl, rfl, h1, r1⟩ := trodAll_cons r0
  obtain ⟨rfl, rfl, rfl⟩ := trodAll_nil r1
  obtain rfl : args = #[v0, v1] := by cases args; simp_all
  obtain ⟨rfl, rfl⟩ := trodVars_none hV
  obtain ⟨a0, len0, cap0, rfl⟩ := okWide_slice Trym.underlying22 (hval 0 22 v0 rfl rfl)
  have k0 := h0
  have lt0 : ∀ x ∈ p0, x.block < W.heap.size := by obtain ⟨m, hm⟩ := k0; exact DataW.trod_lt m _ _ _ hm
  obtain ⟨z0, w0⟩ : ∃ zs, IsRow .u8 W a0 len0 cap0 zs := by
    obtain ⟨fuel, hf⟩ := h0
    rcases open_ints Trym.underlying22 Trym.underlying5 (by kernel_rfl) hf with ⟨hcs, _⟩ | ⟨x, l, c, zs, hcs, _, hl, hm, hz, _, hcell, hwz⟩
    · simp [Value.cells] at hcs
      obtain ⟨rfl, rfl, rfl⟩ := hcs
      exact ⟨[], .inl ⟨rfl, rfl, rfl, rfl⟩⟩
    · simp [Value.cells] at hcs
      obtain ⟨rfl, rfl, rfl⟩ := hcs
      exact ⟨zs, .inr ⟨_, rfl, hl, hm, by simpa using hz, hcell, hwz⟩⟩
  obtain ⟨a1, rfl, rfl, rfl, w1⟩ := open_int Trym.underlying3 (hval 1 3 v1 rfl rfl) h1
  clear hA0 hval0
  refine (walk a0 len0 cap0 z0 a1 W w0 w1).mono fun e W' ⟨he, bel⟩ => ?_
  subst he
  exact ⟨_, rfl, _, _, _, [], _, [], hW', trodAll_mk1 (shut_bool Trym.underlying4 _), (trodAll_cons_mk (Below.trod laidOut (by kernel_rfl) (of_decide_eq_true (by kernel_rfl)) k0 bel lt0) (trodAll_cons_mk (shut_int Trym.underlying3 w1) trodAll_mk0)), rfl, bel.frame _, fun h => by cases h⟩

theorem over : Rows.fnPlainScalarMatchesFirstStopModelRow.holds Trym.pinned (OpenSpec.ofChange Rows.fnPlainScalarMatchesFirstStopModelSpec) :=
  OpenClaim.holds_of_wide 5 Trym.f5 rfl rfl rfl rfl rfl rfl rfl ⟨rfl, rfl, rfl, rfl, rfl⟩ rfl rfl rfl rfl rfl (by kernel_rfl) Trym.func5 (by kernel_rfl)
    (of_decide_eq_true (by kernel_rfl)) (by unfold Func.isWrapper; first | (rw [if_pos (by decide +kernel)]; kernel_rfl) | (rw [if_neg (by decide +kernel)]; exact ⟨rfl, rfl⟩))
    (fun os started H enc _ => lifted os started H enc)

/-- THE STATEMENT -/
theorem proved : Rows.FnPlainScalarMatchesFirstStopModelSaid := over
#print axioms proved
end Go.Proofs.Qxb6603083aMods.fnPlainScalarMatchesFirstStopModel
