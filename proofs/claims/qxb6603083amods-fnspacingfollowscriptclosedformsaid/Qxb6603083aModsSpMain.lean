/- The walk of FnSpacingFollowScriptClosedForm. -/
import Derived.Test.Qxb6603083aModsSpWalks
namespace Go.Proofs.Qxb6603083aMods.Sp
open Go.RowKit
set_option linter.unusedVariables false
set_option linter.unusedSimpArgs false

theorem vint {k : IntKind} {a b : Int} (h : a = b) : Value.int k a = Value.int k b := by rw [h]
theorem D_zero (dep : Int) (h : 0 ≤ dep) (z : List Int) : D dep z 0 = dep := by
  have h1 : S z 0 = 0 := rfl
  have h2 : L z 0 = 0 := rfl
  unfold D
  split <;> omega
theorem vbool {a b : Bool} (h : a = b) : Value.bool a = Value.bool b := by rw [h]

theorem hid {p : Prop} (h : p) : Hid p := h
theorem last_eq (la : Int) (z : List Int) (j : Nat) (h : 0 < j) : last la z j = z.getD (j - 1) 0 := by
  cases j with
  | zero => omega
  | succ m => rfl
theorem next_open (dep : Int) (z : List Int) (j : Nat) (c : Int) (hc : c = z.getD j 0) (ho : c = 123 ∨ c = 91) : S z (j + 1) = S z j + 1 ∧ L z (j + 1) = L z j ∧ Q z (j + 1) = Q z j ∧ C dep z (j + 1) = if D dep z j = 0 then C dep z j + 1 else C dep z j := by
  have hL := L_bd z j
  have g : isO c = true := by rcases ho with rfl | rfl <;> rfl
  have s1 : stp c = 1 := by simp [stp, g]
  have q1 : (c == 34) = false := by rcases ho with rfl | rfl <;> rfl
  simp only [L, S, Q, C, ← hc, s1, q1, g, true_and, Bool.or_false, and_true]
  rw [if_neg (by omega)]
theorem next_quote (dep : Int) (z : List Int) (j : Nat) (hc : 34 = z.getD j 0) : S z (j + 1) = S z j ∧ L z (j + 1) = L z j ∧ Q z (j + 1) = true ∧ C dep z (j + 1) = C dep z j := by
  have hL := L_bd z j
  have s1 : stp 34 = 0 := rfl
  have g : isO 34 = false := rfl
  simp only [L, S, Q, C, ← hc, s1, g, Int.add_zero]
  rw [if_neg (by omega)]
  simp
theorem next_other (dep : Int) (z : List Int) (j : Nat) (c : Int) (hc : c = z.getD j 0) (h1 : ¬ c = 34) (h2 : ¬ c = 123) (h3 : ¬ c = 91) : S z (j + 1) = S z j + stp c ∧ L z (j + 1) = (if S z j + stp c < L z j then S z j + stp c else L z j) ∧ Q z (j + 1) = Q z j ∧ C dep z (j + 1) = C dep z j := by
  have g : isO c = false := by simp [isO, h2, h3]
  have q1 : (c == 34) = false := by simpa using h1
  simp only [L, S, Q, C, ← hc, q1, g, Bool.or_false]
  simp

set_option maxRecDepth 20000 in
set_option maxHeartbeats 400000 in
theorem main_long (obs dep : Int) (ins esc : Bool) (la obj : Int) (a : Option Addr) (n cap : Nat) (h : (1048576 : Int) < n) (w : World) :
    Calls Trym.prog 7 #[.int .i64 obs, .int .i64 dep, .bool ins, .bool esc, .int .u8 la, .int .i64 obj, .slice a n cap] w fun e w' => e = .returned (.bool true) ∧ Below w.heap.size w w' := by
  go_enter Trym.func7, Trym.ntmps7
  go_wp2_with (go_at_call 18; refine (bytes_no _ _ _ _ _ _ _ _ _ h _).mono ?_; rintro e w' ⟨rfl, rfl⟩)
  go_ret
  exact ⟨rfl, Below.refl _ _⟩

set_option maxRecDepth 20000 in
set_option maxHeartbeats 400000 in
theorem main_out (obs dep : Int) (ins esc : Bool) (la obj : Int) (a : Option Addr) (n cap : Nat) (h : (n : Int) ≤ 1048576) (hd : dep < 0 ∨ 9223372036854775807 - (n : Int) < dep) (w : World) :
    Calls Trym.prog 7 #[.int .i64 obs, .int .i64 dep, .bool ins, .bool esc, .int .u8 la, .int .i64 obj, .slice a n cap] w fun e w' => e = .returned (.bool true) ∧ Below w.heap.size w w' := by
  rcases hd with hd | hd
  · go_enter Trym.func7, Trym.ntmps7
    go_wp2_with (go_at_call 18; refine (bytes_yes _ _ _ _ _ _ _ _ _ h _).mono ?_; rintro e w' ⟨rfl, rfl⟩)
    go_ret
    exact ⟨rfl, Below.refl _ _⟩
  · have hd0 : ¬ dep < 0 := by omega
    go_enter Trym.func7, Trym.ntmps7
    go_wp2_with (go_at_call 18; refine (bytes_yes _ _ _ _ _ _ _ _ _ h _).mono ?_; rintro e w' ⟨rfl, rfl⟩)
    go_ret
    exact ⟨rfl, Below.refl _ _⟩

set_option maxRecDepth 20000 in
set_option maxHeartbeats 400000 in
theorem main_empty (obs dep : Int) (ins esc : Bool) (la obj : Int) (a : Option Addr) (cap : Nat) (h0 : 0 ≤ dep) (hd : dep ≤ 9223372036854775807) (w : World) (hw : wrap64 obs = obs) :
    Calls Trym.prog 7 #[.int .i64 obs, .int .i64 dep, .bool ins, .bool esc, .int .u8 la, .int .i64 obj, .slice a 0 cap] w fun e w' => e = .returned (.bool true) ∧ Below w.heap.size w w' := by
  go_enter Trym.func7, Trym.ntmps7
  go_wp2_with (go_at_call 18; refine (bytes_yes _ _ _ _ _ _ _ _ _ (by decide) _).mono ?_; rintro e w' ⟨rfl, rfl⟩)
  refine wp_loop_rounds 1 ?_
  rw [rounds_succ]
  go_wp2
  refine wp_loop_rounds 1 ?_
  rw [rounds_succ]
  go_wp2
  all_goals go_ret
  all_goals exact ⟨rfl, Below.refl _ _⟩

set_option maxRecDepth 20000 in
set_option maxHeartbeats 1000000 in
theorem main_row (obs dep : Int) (ins esc : Bool) (la obj : Int) (b off : Nat) (n cap : Nat) (z : List Int) (hp : 0 < n) (hn : (n : Int) ≤ 1048576) (h0 : 0 ≤ dep) (hd : dep ≤ 9223372036854775807 - (n : Int))
    (w : World) (hw : wrap64 obs = obs) (hbl : b < w.heap.size) (hcell : ∀ k, k < n → w.cell? ⟨b, off + k, none⟩ = some (.int .u8 (z.getD k 0))) :
    Calls Trym.prog 7 #[.int .i64 obs, .int .i64 dep, .bool ins, .bool esc, .int .u8 la, .int .i64 obj, .slice (some ⟨b, off, none⟩) n cap] w fun e w' => e = .returned (.bool true) ∧ Below w.heap.size w w' := by
  have HW : Hid (wrap64 obs = obs) := hw
  clear hw
  go_enter Trym.func7, Trym.ntmps7
  go_wp2_with (go_at_call 18; refine (bytes_yes _ _ _ _ _ _ _ _ _ hn _).mono ?_; rintro e w' ⟨rfl, rfl⟩)
  go_loopw [15, 16, 17, 18, 19, 20, 21] (fun o d i e l ob t wr => ∃ k : Nat, k ≤ n ∧ t = .int .i64 k ∧ o = .int .i64 (wrap64 (obs + C dep z k)) ∧ d = .int .i64 (D dep z k) ∧ i = .bool (ins || Q z k) ∧ e = .bool esc ∧ l = .int .u8 (last la z k) ∧ ob = .int .i64 obj ∧ Below w.heap.size w wr)
    (fun _ _ _ _ _ _ t _ => n - (intOf t).toNat)
  case atStart => exact ⟨0, by omega, rfl, vint (by simp only [C]; rw [Int.add_zero, HW.out]), vint (D_zero dep h0 z).symm, vbool (by simp [Q]), rfl, rfl, rfl, Below.refl _ _⟩
  case round =>
    obtain ⟨k, hk, rfl, rfl, rfl, rfl, rfl, rfl, rfl, hbel⟩ := hrel
    have hDb := D_bd dep h0 z k
    by_cases hlt : k < n
    · obtain ⟨c, hc⟩ : ∃ c, c = z.getD k 0 := ⟨_, rfl⟩
      have hcl : wr.cell? ⟨b, off + k, none⟩ = some (.int .u8 c) := by rw [hbel.cell (by exact hbl), hcell k hlt, hc]
      have HC : Hid (c = z.getD k 0) := hc
      clear hc
      go_wp2_with (go_at_call 19; refine (follow_any _ _ _ _ _ _ _ (by omega) (by omega) _).mono ?_; rintro e w' ⟨rfl, hb2⟩)
      go_roundw
      case rel => exact ⟨k + 1, by omega, by go_num, vint (by rw [HC.out, fo_C]), vint (by rw [HC.out, fd_D]), vbool (by rw [HC.out]; simp only [Q, Bool.or_assoc]), rfl, vint (by rw [HC.out]; rfl), rfl, hbel.trans (hb2.mono hbel.size)⟩
      case measure => simp [intOf]; omega
    · have hkn : k = n := by omega
      subst hkn
      clear hlt hk
      have hcr : ∀ j, j < k → wr.cell? ⟨b, off + j, none⟩ = some (.int .u8 (z.getD j 0)) := fun j hj => by rw [hbel.cell (by exact hbl), hcell j hj]
      clear hcell
      go_wp2
      go_loop [22, 23, 24, 25, 26] (fun su lo co qu t => ∃ j : Nat, j ≤ k ∧ t = .int .i64 j ∧ su = .int .i64 (S z j) ∧ lo = .int .i64 (L z j) ∧ co = .int .i64 (C dep z j) ∧ qu = .bool (Q z j))
        (fun _ _ _ _ t => k - (intOf t).toNat)
      case atStart => exact ⟨0, by omega, rfl, rfl, rfl, rfl, rfl⟩
      case round =>
        obtain ⟨j, hj, rfl, rfl, rfl, rfl, rfl⟩ := hrel
        have hSb := S_bd z j
        have hLb := L_bd z j
        have hCb := C_bd dep z j
        by_cases hlt : j < k
        · obtain ⟨c, hc⟩ : ∃ c, c = z.getD j 0 := ⟨_, rfl⟩
          have hcl : wr.cell? ⟨b, off + j, none⟩ = some (.int .u8 c) := by rw [hcr j hlt, hc]
          by_cases ho : c = 123 ∨ c = 91
          · obtain ⟨HS, HL, HQ, HC⟩ := next_open dep z j c hc ho
            replace HS := hid HS
            replace HL := hid HL
            replace HQ := hid HQ
            replace HC := hid HC
            clear hc hcr
            have fin : ∀ x : Int, D dep z j = x → ((x == 0) = true ∧ Hid (C dep z (j + 1) = C dep z j + 1)) ∨ ((x == 0) = false ∧ Hid (C dep z (j + 1) = C dep z j)) := by
              intro x hx
              by_cases h0 : x = 0
              · exact .inl ⟨by simpa using h0, by have := HC.out; rw [if_pos (by omega)] at this; exact this⟩
              · exact .inr ⟨by simpa using h0, by have := HC.out; rw [if_neg (by omega)] at this; exact this⟩
            clear HC
            by_cases hb : dep + S z j < S z j - L z j
            · obtain ⟨hz, HC⟩ | ⟨hz, HC⟩ := fin (S z j - L z j) (by unfold D; rw [if_pos hb])
              all_goals
                clear fin
                rcases ho with rfl | rfl
              all_goals
                have hst : stp 123 = 1 := rfl
                have hst' : stp 91 = 1 := rfl
                go_wp2_with (go_at_call 20; refine (step_any _ _).mono ?_; rintro e w' ⟨rfl, rfl⟩)
                go_round
                case rel => exact ⟨j + 1, by omega, by go_num, vint (by rw [HS.out]), vint (by rw [HL.out]), vint (by rw [HC.out]), vbool (by rw [HQ.out])⟩
                case measure => simp [intOf]; omega
            · obtain ⟨hz, HC⟩ | ⟨hz, HC⟩ := fin (dep + S z j) (by unfold D; rw [if_neg hb])
              all_goals
                clear fin
                rcases ho with rfl | rfl
              all_goals
                have hst : stp 123 = 1 := rfl
                have hst' : stp 91 = 1 := rfl
                go_wp2_with (go_at_call 20; refine (step_any _ _).mono ?_; rintro e w' ⟨rfl, rfl⟩)
                go_round
                case rel => exact ⟨j + 1, by omega, by go_num, vint (by rw [HS.out]), vint (by rw [HL.out]), vint (by rw [HC.out]), vbool (by rw [HQ.out])⟩
                case measure => simp [intOf]; omega
          by_cases hq : c = 34
          · subst hq
            obtain ⟨HS, HL, HQ, HC⟩ := next_quote dep z j hc
            replace HS := hid HS
            replace HL := hid HL
            replace HQ := hid HQ
            replace HC := hid HC
            clear hc hcr ho
            have hst : stp 34 = 0 := rfl
            go_wp2_with (go_at_call 20; refine (step_any _ _).mono ?_; rintro e w' ⟨rfl, rfl⟩)
            all_goals
              go_round
              case rel => exact ⟨j + 1, by omega, by go_num, vint (by rw [HS.out]), vint (by rw [HL.out]), vint (by rw [HC.out]), vbool (by rw [HQ.out])⟩
              case measure => simp [intOf]; omega
          have h123 : ¬ c = 123 := by omega
          have h91 : ¬ c = 91 := by omega
          obtain ⟨HS, HL, HQ, HC⟩ := next_other dep z j c hc hq h123 h91
          replace HS := hid HS
          replace HL := hid HL
          replace HQ := hid HQ
          replace HC := hid HC
          clear hc hcr ho
          have g1 : (c == 34) = false := by simpa using hq
          have g2 : (c == 123) = false := by simpa using h123
          have g3 : (c == 91) = false := by simpa using h91
          clear hq h123 h91
          have hst := stp_bd c
          go_wp2_with (go_at_call 20; refine (step_any _ _).mono ?_; rintro e w' ⟨rfl, rfl⟩)
          all_goals
            go_round
            case rel => exact ⟨j + 1, by omega, by go_num, vint (by rw [HS.out]), vint (by have h := HL.out; split at h <;> omega), vint (by rw [HC.out]), vbool (by rw [HQ.out])⟩
            case measure => simp [intOf]; omega
        · have hjk : j = k := by omega
          subst hjk
          have hl1 : wr.cell? ⟨b, off + (j - 1), none⟩ = some (.int .u8 (last la z j)) := by
            rw [hcr (j - 1) (by omega), last_eq la z j hp]
          clear hlt hj hcr
          by_cases hb : dep + S z j < S z j - L z j
          · have hDe : (D dep z j == S z j - L z j) = true := by simp [D, hb]
            go_wp2
            all_goals go_ret
            all_goals exact ⟨rfl, hbel⟩
          · have hDe : (D dep z j == dep + S z j) = true := by simp [D, hb]
            go_wp2
            all_goals go_ret
            all_goals exact ⟨rfl, hbel⟩
end Go.Proofs.Qxb6603083aMods.Sp
