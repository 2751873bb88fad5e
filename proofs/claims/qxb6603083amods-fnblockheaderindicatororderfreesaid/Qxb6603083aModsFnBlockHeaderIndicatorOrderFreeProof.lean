/-
  A proof of 'Rows.FnBlockHeaderIndicatorOrderFreeSaid'. The frame ('lifted', 'over', 'proved') is the given shell's; the walk is ours.
-/
import Derived.Test.Qxb6603083aModsRows
import Derived.Test.Qxb6603083aModsBhWalks
import Derived.Test.Qxb6603083aModsTxCopy
import Derived.WalkKit
import Derived.ProofKit
import Derived.OpenShut
import Derived.ShutString
import Derived.ChangeOld
import Derived.Below
namespace Go.Proofs.Qxb6603083aMods.fnBlockHeaderIndicatorOrderFree
open Go.ChangeShapes Go.WideShapes Go.ChangeAt Go.RowKit
open Go.ChangeMaps (open_string shut_string)
set_option linter.unusedVariables false

theorem own : ownKnob Trym.prog.godebug = none := by kernel_rfl
theorem laidOut : laidOutB Trym.prog = true := by kernel_rfl

/-- WHAT THE WALK IS TOLD OF A SLICE OF INTEGERS THAT CAME IN: it is nil; or it leads to a row of 'cap' cells, the numbers 'zs' (the first 'len' are its elements, the rest its spare room), each fitting its kind. -/
def IsRow (k : IntKind) (w : World) (a : Option Addr) (len cap : Nat) (zs : List Int) : Prop :=
  (a = none ∧ len = 0 ∧ cap = 0 ∧ zs = []) ∨
  ∃ x, a = some x ∧ len ≤ cap ∧ cap ≤ maxLen ∧ zs.length = cap ∧ (∀ i, i < zs.length → w.cell? (x.add i) = some (.int k (zs.getD i 0))) ∧ ∀ n ∈ zs, (Lit.int k n).wf = true

theorem info5 : (Trym.prog.info? 5).map (fun i => (i.zero, i.size, i.bytes)) = some (some (.int .u8 0), 1, 1) := by kernel_rfl

/-- the text with the bytes at i and i + 1 exchanged -/
def sw (t : Nat → Int) (i : Nat) (k : Nat) : Int := if k = i + 1 then t i else if k = i then t (i + 1) else t k
theorem sw_pair (t : Nat → Int) (n i : Nat) (hi : i + 1 < n) (d : Int) (h : (Tx.isC (t i) = true ∧ Tx.isD (t (i + 1)) = true ∧ d = t (i + 1)) ∨ (Tx.isD (t i) = true ∧ Tx.isC (t (i + 1)) = true ∧ d = t i)) :
    Tx.bh (sw t i) n i = Tx.bh t n i := by
  have e1 : sw t i i = t (i + 1) := by simp [sw]
  have e2 : sw t i (i + 1) = t i := by simp [sw]
  rw [Tx.bh_pair t n i hi d h, Tx.bh_pair (sw t i) n i hi d (by rw [e1, e2]; rcases h with ⟨x, y, e⟩ | ⟨x, y, e⟩; (exact .inr ⟨y, x, e⟩); (exact .inl ⟨y, x, e⟩))]
  rw [Tx.tl_congr (t := sw t i) (t' := t) (by omega) (fun q h1 h2 => by unfold sw; rw [if_neg (by omega), if_neg (by omega)])]

set_option maxRecDepth 20000 in
set_option maxHeartbeats 2000000 in
theorem free_pair (x : Addr) (n cap : Nat) (z : List Int) (i : Nat) (w : World) (hn : (n : Int) ≤ 1048576) (hi : i + 1 < n) (hz : n ≤ z.length) (hcell : ∀ k, k < n → w.cell? (x.add k) = some (.int .u8 (z.getD k 0)))
    (a b d : Int) (ha : a = z.getD i 0) (hb : b = z.getD (i + 1) 0) (hp : (Tx.isC a = true ∧ Tx.isD b = true ∧ d = b) ∨ (Tx.isD a = true ∧ Tx.isC b = true ∧ d = a)) :
    Calls Trym.prog 4 #[.slice (some x) n cap, .int .i64 i] w fun e w' => e = .returned (.bool true) ∧ Below w.heap.size w w' := by
  have hneq := fun wx => run_neq_slice_nil_any (P := Trym.prog) wx 22 5 (some x) n cap 0 0 Trym.underlying22
  have hmk := fun wx => run_make_row' (P := Trym.prog) 22 5 (.int .u8 0) 1 Trym.underlying22 info5 rfl .i64 .i64 n (by omega) (by omega) wx
  obtain ⟨w2, hcp, ht2, hb2, hs2⟩ := Tx.copy_run (P := Trym.prog) w 3 Trym.underlying22 (by kernel_rfl) n cap x z hz hcell
  clear hcell
  have h0 : ¬ (i : Int) < 0 := by omega
  have h1 : ¬ (n : Int) - 1 ≤ i := by omega
  have hi1 : (i : Int) + 1 < n := by omega
  have hi0 : (i : Int) < n := by omega
  have hca : w2.cell? ⟨w.heap.size, i, none⟩ = some (.int .u8 a) := by have := ht2.at (k := i) (by omega); rw [Nat.zero_add] at this; rw [this, ha]
  have hcb : w2.cell? ⟨w.heap.size, i + 1, none⟩ = some (.int .u8 b) := by have := ht2.at (k := i + 1) (by omega); rw [Nat.zero_add] at this; rw [this, hb]
  have hR := Tx.bh_pair (fun k => z.getD k 0) n i hi d (by rw [← ha, ← hb]; exact hp)
  have hR2 := sw_pair (fun k => z.getD k 0) n i hi d (by rw [← ha, ← hb]; exact hp)
  rw [hR] at hR2
  generalize Tx.tl (fun k => z.getD k 0) n (i + 2) = o at hR hR2
  have HR := Tx.hid hR
  have HR2 := Tx.hid hR2
  have HA := Tx.hid ha
  have HB := Tx.hid hb
  clear ha hb hR hR2
  have hfin : (∃ e : Int, e = (if Tx.isC a = true then b else a) ∧ (d - 48 == e - 48) = true ∧ 49 ≤ e ∧ e ≤ 57) := by
    rcases hp with ⟨hCa, hDb, hd⟩ | ⟨hDa, hCb, hd⟩
    · have := (Tx.isD_iff _).1 hDb
      exact ⟨b, by simp [hCa], by simp [hd], by omega, by omega⟩
    · have := (Tx.isD_iff _).1 hDa
      exact ⟨a, by simp [Tx.D_notC hDa], by simp [hd], by omega, by omega⟩
  obtain ⟨e, he, hde, hb1, hb2'⟩ := hfin
  rcases hp with ⟨hCa, hDb, hd⟩ | ⟨hDa, hCb, hd⟩
  · have hDa := Tx.C_notD hCa
    rw [if_pos hCa] at he
    subst he
    clear hd
    go_enter Trym.func4, Trym.ntmps4
    go_wp2_with (first | (go_at_call 11; refine (Tx.bytes11_yes _ _ _ _ hn _).mono ?_; rintro e w' ⟨rfl, rfl⟩) | (go_at_call 12; refine (Tx.chomp_any _ _).mono ?_; rintro e w' ⟨rfl, rfl⟩) | (go_at_call 13; refine (Tx.digit_any _ _).mono ?_; rintro e w' ⟨rfl, rfl⟩))
    clear hneq hmk hcp
    go_loopw [10] (fun v wr => ∃ k : Nat, k ≤ n ∧ v = .int .i64 k ∧ wr.rowIs w2.heap.size 5 n (fun q => if q < k then .int .u8 (z.getD q 0) else .int .u8 0) ∧ Below w2.heap.size w2 wr) (fun v _ => n - (intOf v).toNat)
    case atStart => exact ⟨0, Nat.zero_le _, rfl, (World.rowIs_made w2 (.int .u8 0) n 5).congr (fun q _ => by simp), (Below.refl _ _).alloc (Nat.le_refl _) _⟩
    case round =>
      obtain ⟨k, hk, rfl, hrow, hbel⟩ := hrel
      have HRow := Tx.hid hrow
      by_cases hlt : k < n
      · have hck : wr.cell? ⟨w.heap.size, k, none⟩ = some (.int .u8 (z.getD k 0)) := by
          have := (ht2.below hbel hs2).at hlt
          rwa [Nat.zero_add] at this
        have hcd : wr.cell? ⟨w2.heap.size, k, none⟩ = some (.int .u8 0) := by rw [hrow.cell hlt]; simp
        have hfr := hrow.frozen k
        obtain ⟨c, hc⟩ : ∃ c, c = z.getD k 0 := ⟨_, rfl⟩
        rw [← hc] at hck
        have HC := Tx.hid hc
        clear hc hrow
        go_wp2
        go_roundw
        case rel =>
          refine ⟨k + 1, by omega, by go_num, (HRow.out.set k _).congr (fun q hq => ?_), hbel.setCell (Nat.le_refl _) _⟩
          by_cases hqk : q = k
          · rw [if_pos hqk, if_pos (by omega), hqk, ← HC.out]
          · rw [if_neg hqk]
            by_cases hq2 : q < k
            · rw [if_pos hq2, if_pos (by omega)]
            · rw [if_neg hq2, if_neg (by omega)]
        case measure => simp [intOf]; omega
      · have hkn : k = n := by omega
        subst hkn
        have hcell0 : wr.cell? ⟨w2.heap.size, i, none⟩ = some (.int .u8 a) := by rw [hrow.cell (by omega), if_pos (by omega), ← HA.out]
        have hcell1 : wr.cell? ⟨w2.heap.size, i + 1, none⟩ = some (.int .u8 e) := by rw [hrow.cell (by omega), if_pos (by omega), ← HB.out]
        have hfr0 := hrow.frozen i
        have hfr1 := hrow.frozen (i + 1)
        have hbW : Below w2.heap.size w2 ((wr.setCell ⟨w2.heap.size, i, none⟩ (.int .u8 e)).setCell ⟨w2.heap.size, i + 1, none⟩ (.int .u8 a)) := (hbel.setCell (Nat.le_refl _) _).setCell (Nat.le_refl _) _
        have htW := ht2.below hbW hs2
        have hrW : Tx.TextAt ((wr.setCell ⟨w2.heap.size, i, none⟩ (.int .u8 e)).setCell ⟨w2.heap.size, i + 1, none⟩ (.int .u8 a)) w2.heap.size 0 k (sw (fun k => z.getD k 0) i) := fun q hq => by
          have h := ((hrow.set i (.int .u8 e)).set (i + 1) (.int .u8 a)).cell hq
          rw [Nat.zero_add, h]
          unfold sw
          by_cases h1 : q = i + 1
          · rw [if_pos h1, if_pos h1, HA.out]
          · rw [if_neg h1, if_neg h1]
            by_cases h2 : q = i
            · rw [if_pos h2, if_pos h2, HB.out]
            · rw [if_neg h2, if_neg h2, if_pos hq]
        have hK1 := Tx.zzheader_in w.heap.size 0 k k i _ hn (by omega) (d - 48) o HR.out _ htW
        have hK2 := Tx.zzheader_in w2.heap.size 0 k k i _ hn (by omega) (d - 48) o HR2.out _ hrW
        have K1 := Tx.hid hK1
        have K2 := Tx.hid hK2
        have HBW := Tx.hid hbW
        clear hK1 hK2 hbW htW hrW hrow HRow
        go_wp2_with fail
        refine (K1.out).mono ?_
        rintro r w3 ⟨rfl, rfl⟩
        go_wp2_with fail
        refine (K2.out).mono ?_
        rintro r w3 ⟨rfl, rfl⟩
        go_wp2
        go_ret
        exact ⟨rfl, hb2.trans (HBW.out.mono (by omega))⟩
  · have hCa := Tx.D_notC hDa
    rw [if_neg (by simp [hCa])] at he
    subst he
    clear hd
    go_enter Trym.func4, Trym.ntmps4
    go_wp2_with (first | (go_at_call 11; refine (Tx.bytes11_yes _ _ _ _ hn _).mono ?_; rintro e w' ⟨rfl, rfl⟩) | (go_at_call 12; refine (Tx.chomp_any _ _).mono ?_; rintro e w' ⟨rfl, rfl⟩) | (go_at_call 13; refine (Tx.digit_any _ _).mono ?_; rintro e w' ⟨rfl, rfl⟩))
    clear hneq hmk hcp
    go_loopw [10] (fun v wr => ∃ k : Nat, k ≤ n ∧ v = .int .i64 k ∧ wr.rowIs w2.heap.size 5 n (fun q => if q < k then .int .u8 (z.getD q 0) else .int .u8 0) ∧ Below w2.heap.size w2 wr) (fun v _ => n - (intOf v).toNat)
    case atStart => exact ⟨0, Nat.zero_le _, rfl, (World.rowIs_made w2 (.int .u8 0) n 5).congr (fun q _ => by simp), (Below.refl _ _).alloc (Nat.le_refl _) _⟩
    case round =>
      obtain ⟨k, hk, rfl, hrow, hbel⟩ := hrel
      have HRow := Tx.hid hrow
      by_cases hlt : k < n
      · have hck : wr.cell? ⟨w.heap.size, k, none⟩ = some (.int .u8 (z.getD k 0)) := by
          have := (ht2.below hbel hs2).at hlt
          rwa [Nat.zero_add] at this
        have hcd : wr.cell? ⟨w2.heap.size, k, none⟩ = some (.int .u8 0) := by rw [hrow.cell hlt]; simp
        have hfr := hrow.frozen k
        obtain ⟨c, hc⟩ : ∃ c, c = z.getD k 0 := ⟨_, rfl⟩
        rw [← hc] at hck
        have HC := Tx.hid hc
        clear hc hrow
        go_wp2
        go_roundw
        case rel =>
          refine ⟨k + 1, by omega, by go_num, (HRow.out.set k _).congr (fun q hq => ?_), hbel.setCell (Nat.le_refl _) _⟩
          by_cases hqk : q = k
          · rw [if_pos hqk, if_pos (by omega), hqk, ← HC.out]
          · rw [if_neg hqk]
            by_cases hq2 : q < k
            · rw [if_pos hq2, if_pos (by omega)]
            · rw [if_neg hq2, if_neg (by omega)]
        case measure => simp [intOf]; omega
      · have hkn : k = n := by omega
        subst hkn
        have hcell0 : wr.cell? ⟨w2.heap.size, i, none⟩ = some (.int .u8 e) := by rw [hrow.cell (by omega), if_pos (by omega), ← HA.out]
        have hcell1 : wr.cell? ⟨w2.heap.size, i + 1, none⟩ = some (.int .u8 b) := by rw [hrow.cell (by omega), if_pos (by omega), ← HB.out]
        have hfr0 := hrow.frozen i
        have hfr1 := hrow.frozen (i + 1)
        have hbW : Below w2.heap.size w2 ((wr.setCell ⟨w2.heap.size, i, none⟩ (.int .u8 b)).setCell ⟨w2.heap.size, i + 1, none⟩ (.int .u8 e)) := (hbel.setCell (Nat.le_refl _) _).setCell (Nat.le_refl _) _
        have htW := ht2.below hbW hs2
        have hrW : Tx.TextAt ((wr.setCell ⟨w2.heap.size, i, none⟩ (.int .u8 b)).setCell ⟨w2.heap.size, i + 1, none⟩ (.int .u8 e)) w2.heap.size 0 k (sw (fun k => z.getD k 0) i) := fun q hq => by
          have h := ((hrow.set i (.int .u8 b)).set (i + 1) (.int .u8 e)).cell hq
          rw [Nat.zero_add, h]
          unfold sw
          by_cases h1 : q = i + 1
          · rw [if_pos h1, if_pos h1, HA.out]
          · rw [if_neg h1, if_neg h1]
            by_cases h2 : q = i
            · rw [if_pos h2, if_pos h2, HB.out]
            · rw [if_neg h2, if_neg h2, if_pos hq]
        have hK1 := Tx.zzheader_in w.heap.size 0 k k i _ hn (by omega) (d - 48) o HR.out _ htW
        have hK2 := Tx.zzheader_in w2.heap.size 0 k k i _ hn (by omega) (d - 48) o HR2.out _ hrW
        have K1 := Tx.hid hK1
        have K2 := Tx.hid hK2
        have HBW := Tx.hid hbW
        clear hK1 hK2 hbW htW hrW hrow HRow
        go_wp2_with fail
        refine (K1.out).mono ?_
        rintro r w3 ⟨rfl, rfl⟩
        go_wp2_with fail
        refine (K2.out).mono ?_
        rintro r w3 ⟨rfl, rfl⟩
        go_wp2
        go_ret
        exact ⟨rfl, hb2.trans (HBW.out.mono (by omega))⟩

set_option maxRecDepth 20000 in
set_option maxHeartbeats 1000000 in
theorem free_not (x : Addr) (n cap : Nat) (z : List Int) (i : Nat) (w : World) (hn : (n : Int) ≤ 1048576) (hi : i + 1 < n) (hz : n ≤ z.length) (hcell : ∀ k, k < n → w.cell? (x.add k) = some (.int .u8 (z.getD k 0)))
    (a b : Int) (ha : a = z.getD i 0) (hb : b = z.getD (i + 1) 0) (hp1 : ¬ (Tx.isC a = true ∧ Tx.isD b = true)) (hp2 : ¬ (Tx.isD a = true ∧ Tx.isC b = true)) :
    Calls Trym.prog 4 #[.slice (some x) n cap, .int .i64 i] w fun e w' => e = .returned (.bool true) ∧ Below w.heap.size w w' := by
  have hneq := fun wx => run_neq_slice_nil_any (P := Trym.prog) wx 22 5 (some x) n cap 0 0 Trym.underlying22
  have hmk := fun wx => run_make_row' (P := Trym.prog) 22 5 (.int .u8 0) 1 Trym.underlying22 info5 rfl .i64 .i64 n (by omega) (by omega) wx
  obtain ⟨w2, hcp, ht2, hb2, hs2⟩ := Tx.copy_run (P := Trym.prog) w 3 Trym.underlying22 (by kernel_rfl) n cap x z hz hcell
  clear hcell
  have h0 : ¬ (i : Int) < 0 := by omega
  have h1 : ¬ (n : Int) - 1 ≤ i := by omega
  have hi1 : (i : Int) + 1 < n := by omega
  have hi0 : (i : Int) < n := by omega
  have hca : w2.cell? ⟨w.heap.size, i, none⟩ = some (.int .u8 a) := by have := ht2.at (k := i) (by omega); rw [Nat.zero_add] at this; rw [this, ha]
  have hcb : w2.cell? ⟨w.heap.size, i + 1, none⟩ = some (.int .u8 b) := by have := ht2.at (k := i + 1) (by omega); rw [Nat.zero_add] at this; rw [this, hb]
  clear ha hb ht2
  cases hCa : Tx.isC a
  · cases hDa : Tx.isD a
    · clear hp1 hp2
      go_enter Trym.func4, Trym.ntmps4
      go_wp2_with (first | (go_at_call 11; refine (Tx.bytes11_yes _ _ _ _ hn _).mono ?_; rintro e w' ⟨rfl, rfl⟩) | (go_at_call 12; refine (Tx.chomp_any _ _).mono ?_; rintro e w' ⟨rfl, rfl⟩) | (go_at_call 13; refine (Tx.digit_any _ _).mono ?_; rintro e w' ⟨rfl, rfl⟩))
      go_ret
      exact ⟨rfl, hb2⟩
    · have hCb : Tx.isC b = false := by simpa [hDa] using hp2
      clear hp1 hp2
      go_enter Trym.func4, Trym.ntmps4
      go_wp2_with (first | (go_at_call 11; refine (Tx.bytes11_yes _ _ _ _ hn _).mono ?_; rintro e w' ⟨rfl, rfl⟩) | (go_at_call 12; refine (Tx.chomp_any _ _).mono ?_; rintro e w' ⟨rfl, rfl⟩) | (go_at_call 13; refine (Tx.digit_any _ _).mono ?_; rintro e w' ⟨rfl, rfl⟩))
      go_ret
      exact ⟨rfl, hb2⟩
  · have hDb : Tx.isD b = false := by simpa [hCa] using hp1
    have hDa := Tx.C_notD hCa
    clear hp1 hp2
    go_enter Trym.func4, Trym.ntmps4
    go_wp2_with (first | (go_at_call 11; refine (Tx.bytes11_yes _ _ _ _ hn _).mono ?_; rintro e w' ⟨rfl, rfl⟩) | (go_at_call 12; refine (Tx.chomp_any _ _).mono ?_; rintro e w' ⟨rfl, rfl⟩) | (go_at_call 13; refine (Tx.digit_any _ _).mono ?_; rintro e w' ⟨rfl, rfl⟩))
    go_ret
    exact ⟨rfl, hb2⟩

theorem free_in (x : Addr) (n cap : Nat) (z : List Int) (i : Nat) (w : World) (hn : (n : Int) ≤ 1048576) (hi : i + 1 < n) (hz : n ≤ z.length) (hcell : ∀ k, k < n → w.cell? (x.add k) = some (.int .u8 (z.getD k 0))) :
    Calls Trym.prog 4 #[.slice (some x) n cap, .int .i64 i] w fun e w' => e = .returned (.bool true) ∧ Below w.heap.size w w' := by
  by_cases h1 : Tx.isC (z.getD i 0) = true ∧ Tx.isD (z.getD (i + 1) 0) = true
  · exact free_pair x n cap z i w hn hi hz hcell _ _ _ rfl rfl (.inl ⟨h1.1, h1.2, rfl⟩)
  by_cases h2 : Tx.isD (z.getD i 0) = true ∧ Tx.isC (z.getD (i + 1) 0) = true
  · exact free_pair x n cap z i w hn hi hz hcell _ _ _ rfl rfl (.inr ⟨h2.1, h2.2, rfl⟩)
  exact free_not x n cap z i w hn hi hz hcell _ _ rfl rfl h1 h2

set_option maxRecDepth 20000 in
set_option maxHeartbeats 1000000 in
theorem free_long (a : Option Addr) (n cap : Nat) (i : Int) (hn : (1048576 : Int) < n) (w : World) :
    Calls Trym.prog 4 #[.slice a n cap, .int .i64 i] w fun e w' => e = .returned (.bool true) ∧ Below w.heap.size w w' := by
  go_enter Trym.func4, Trym.ntmps4
  go_wp2_with (go_at_call 11; refine (Tx.bytes11_no _ _ _ _ hn _).mono ?_; rintro e w' ⟨rfl, rfl⟩)
  go_ret
  exact ⟨rfl, Below.refl _ _⟩

set_option maxRecDepth 20000 in
set_option maxHeartbeats 1000000 in
theorem free_out (a : Option Addr) (n cap : Nat) (i : Int) (hn : (n : Int) ≤ 1048576) (hi : i < 0 ∨ (n : Int) - 1 ≤ i) (w : World) :
    Calls Trym.prog 4 #[.slice a n cap, .int .i64 i] w fun e w' => e = .returned (.bool true) ∧ Below w.heap.size w w' := by
  rcases hi with h | h
  · go_enter Trym.func4, Trym.ntmps4
    go_wp2_with (go_at_call 11; refine (Tx.bytes11_yes _ _ _ _ hn _).mono ?_; rintro e w' ⟨rfl, rfl⟩)
    go_ret
    exact ⟨rfl, Below.refl _ _⟩
  · by_cases h' : i < 0
    · go_enter Trym.func4, Trym.ntmps4
      go_wp2_with (go_at_call 11; refine (Tx.bytes11_yes _ _ _ _ hn _).mono ?_; rintro e w' ⟨rfl, rfl⟩)
      go_ret
      exact ⟨rfl, Below.refl _ _⟩
    · go_enter Trym.func4, Trym.ntmps4
      go_wp2_with (go_at_call 11; refine (Tx.bytes11_yes _ _ _ _ hn _).mono ?_; rintro e w' ⟨rfl, rfl⟩)
      go_ret
      exact ⟨rfl, Below.refl _ _⟩

/-! ### THE WALK: the Go text returns true, and writes nothing that was there -/
theorem walk (a0 : Option Addr) (len0 cap0 : Nat) (z0 : List Int) (a1 : Int) (w : World) (w0 : IsRow .u8 w a0 len0 cap0 z0) (w1 : (Lit.int .i64 a1).wf = true) :
    Calls Trym.prog 4 #[.slice a0 len0 cap0, .int .i64 a1] w fun e w' => e = .returned (.bool true) ∧ Below w.heap.size w w' := by
  have hb1 := bounds_i64 w1
  by_cases hl : (1048576 : Int) < len0
  · exact free_long a0 len0 cap0 a1 hl w
  by_cases hd : a1 < 0 ∨ (len0 : Int) - 1 ≤ a1
  · exact free_out a0 len0 cap0 a1 (by omega) hd w
  rcases w0 with ⟨rfl, rfl, rfl, rfl⟩ | ⟨x, rfl, hlc, hm, hzl, hcell, hwz⟩
  · omega
  obtain ⟨i, rfl⟩ : ∃ i : Nat, a1 = i := ⟨a1.toNat, by omega⟩
  exact free_in x len0 cap0 z0 i w (by omega) (by omega) (by omega) (fun k hk => hcell k (by omega))

/-! ### THE ROW's STEP -/
set_option maxRecDepth 100000 in
theorem lifted (os : Os) (started : os.Started) (H : Type) (enc : TypeId × Value → H) :
    ReturnsInHanded {} Trym.checked os 4 .any (Rows.fnBlockHeaderIndicatorOrderFreeSpec.pre6 enc Trym.prog Trym.f4 Rows.fnBlockHeaderIndicatorOrderFreeRow.domain false) (Rows.fnBlockHeaderIndicatorOrderFreeSpec.post enc Trym.prog Trym.f4 false true false false) := by
  refine returnsInHanded_of_change (C := Trym.checked) own started (by kernel_rfl) Trym.func4
    (ChangeSpec.witness6 (enc := enc) (C := Trym.checked) false ⟨#[], #[.slice none 0 0, .int .i64 0], []⟩ 8 (by kernel_rfl) (by kernel_rfl) (by kernel_rfl) (by kernel_rfl)) ?_
  intro W base args ds gs before hval0 hW hcnd _
  have hval : ∀ (j : Nat) t v, Trym.f4.params[j]? = some t → args[j]? = some v → Value.okWide Trym.prog W .any base t v := hval0
  have hW' := hW
  obtain ⟨p, q, hA0, hV, rfl, hfz, hnd⟩ := hW
  have hA : DataW.TrodAll enc Trym.prog W 0 (fun _ => true) true Trym.f4.params.toList args.toList ds p := hA0
  rw [Trym.params4] at hA hval
  obtain ⟨v0, vs0, d0, ds0, p0, q0, hargs, rfl, rfl, h0, r0⟩ := trodAll_cons hA
  obtain ⟨v1, vs1, d1, ds1, p1, q1, rfl, rfl, rfl, h1, r1⟩ := trodAll_cons r0
  obtain ⟨rfl, rfl, rfl⟩ := trodAll_nil r1
  obtain rfl : args = #[v0, v1] := by cases args; simp_all
  obtain ⟨rfl, rfl⟩ := trodVars_none hV
  obtain ⟨a0, len0, cap0, rfl⟩ := okWide_slice Trym.underlying22 (hval 0 22 v0 rfl rfl)
  have k0 := h0
  have lt0 : ∀ x ∈ p0, x.block < W.heap.size := by obtain ⟨m, hm⟩ := k0; exact DataW.trod_lt m _ _ _ hm
  obtain ⟨z0, w0⟩ : ∃ zs, IsRow .u8 W a0 len0 cap0 zs := by
    obtain ⟨fuel, hf⟩ := h0
    rcases open_ints Trym.underlying22 Trym.underlying5 (by kernel_rfl) hf with ⟨hcs, _⟩ | ⟨x, l, c, zs, hcs, _, hl, hm, hz, _, hcell, hwz⟩
    · simp [Value.cells] at hcs
      obtain ⟨rfl, rfl, rfl⟩ := hcs
      exact ⟨[], .inl ⟨rfl, rfl, rfl, rfl⟩⟩
    · simp [Value.cells] at hcs
      obtain ⟨rfl, rfl, rfl⟩ := hcs
      exact ⟨zs, .inr ⟨_, rfl, hl, hm, by simpa using hz, hcell, hwz⟩⟩
  obtain ⟨a1, rfl, rfl, rfl, w1⟩ := open_int Trym.underlying3 (hval 1 3 v1 rfl rfl) h1
  clear hA0 hval0
  refine (walk a0 len0 cap0 z0 a1 W w0 w1).mono fun e W' ⟨he, bel⟩ => ?_
  subst he
  exact ⟨_, rfl, _, _, _, [], _, [], hW', trodAll_mk1 (shut_bool Trym.underlying4 _), (trodAll_cons_mk (Below.trod laidOut (by kernel_rfl) (of_decide_eq_true (by kernel_rfl)) k0 bel lt0) (trodAll_cons_mk (shut_int Trym.underlying3 w1) trodAll_mk0)), rfl, bel.frame _, fun h => by cases h⟩

theorem over : Rows.fnBlockHeaderIndicatorOrderFreeRow.holds Trym.pinned (OpenSpec.ofChange Rows.fnBlockHeaderIndicatorOrderFreeSpec) :=
  OpenClaim.holds_of_wide 4 Trym.f4 rfl rfl rfl rfl rfl rfl rfl ⟨rfl, rfl, rfl, rfl, rfl⟩ rfl rfl rfl rfl rfl (by kernel_rfl) Trym.func4 (by kernel_rfl)
    (of_decide_eq_true (by kernel_rfl)) (by unfold Func.isWrapper; first | (rw [if_pos (by decide +kernel)]; kernel_rfl) | (rw [if_neg (by decide +kernel)]; exact ⟨rfl, rfl⟩))
    (fun os started H enc _ => lifted os started H enc)

/-- THE STATEMENT -/
theorem proved : Rows.FnBlockHeaderIndicatorOrderFreeSaid := over
#print axioms proved
end Go.Proofs.Qxb6603083aMods.fnBlockHeaderIndicatorOrderFree
