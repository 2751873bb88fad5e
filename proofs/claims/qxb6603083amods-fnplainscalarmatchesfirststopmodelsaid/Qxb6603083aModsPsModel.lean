/- The contract of plainScalarModelB1: over the seat's translation. -/
import Derived.Test.Qxb6603083aModsPsWalks
import Derived.Deep.CutBlock
import Derived.Deep.DeepCutAuto
namespace Go.Proofs.Qxb6603083aMods.Tx
open Go.RowKit
set_option linter.unusedVariables false
set_option linter.unusedSimpArgs false

/-- What the first loop has found: the first stop. -/
def Stop (t : Nat → Int) (n i s : Nat) (c : Bool) : Prop :=
  i ≤ s ∧ s ≤ n ∧ (∀ p, i ≤ p → p < s → ¬ colonAt t n p ∧ ¬ hashAt t i p) ∧ ((c = true ∧ s < n ∧ colonAt t n s) ∨ (c = false ∧ ((s < n ∧ hashAt t i s) ∨ s = n)))
theorem PS_of {t : Nat → Int} {n i e s : Nat} {c : Bool} (h : Stop t n i s c) (h1 : i ≤ e) (h2 : e ≤ s) (h3 : ∀ q, e ≤ q → q < s → t q = 32) (h4 : e = i ∨ t (e - 1) ≠ 32) : PS t n i e s c :=
  ⟨h1, h2, h.2.1, h.2.2.1, h.2.2.2, h3, h4⟩

theorem ret3 {a a' : Int} {b c : Value} (h : a = a') : Ending.returned (.tuple #[.int .i64 a, b, c]) = .returned (.tuple #[.int .i64 a', b, c]) := by rw [h]

set_option maxRecDepth 20000 in
set_option maxHeartbeats 400000 in
theorem model_past (a : Option Addr) (n cap : Nat) (i : Int) (hn : (n : Int) ≤ 1048576) (h : (n : Int) ≤ i) (w : World) :
    Calls Trym.prog 16 #[.slice a n cap, .int .i64 i] w fun r w' => r = .returned (.tuple #[.int .i64 i, .int .i64 n, .bool false]) ∧ w = w' := by
  have h1 : ¬ i < n := by omega
  have h2 : ¬ i ≤ (n : Int) - 1 := by omega
  go_enter Trym.func16, Trym.ntmps16
  go_wp2
  refine wp_loop_rounds 1 ?_
  rw [rounds_succ]
  go_wp2
  refine wp_loop_rounds 1 ?_
  rw [rounds_succ]
  go_wp2
  go_ret3
  exact ⟨rfl, rfl⟩

/-- The first loop's end, hidden from the walk. -/
def StopH (t : Nat → Int) (n i : Nat) (vs vc : Value) : Prop := ∃ (s : Nat) (c : Bool), Stop t n i s c ∧ vs = .int .i64 s ∧ vc = .bool c

set_option maxRecDepth 20000 in
set_option maxHeartbeats 2000000 in
theorem model_in (b off n cap i : Nat) (t : Nat → Int) (hn : (n : Int) ≤ 1048576) (hi : i < n) (w : World) (ht : TextAt w b off n t) :
    Calls Trym.prog 16 #[.slice (some ⟨b, off, none⟩) n cap, .int .i64 i] w fun r w' => PSret t n i r ∧ w = w' := by
  go_enter Trym.func16, Trym.ntmps16
  go_upto_block 0 with fail
  go_cut [8, 9, 10] (fun vs vc vp wx => StopH t n i vs vc ∧ wx = w)
  case first =>
    go_wp2_with fail
    go_loop [8, 9, 10] (fun vs vc vp => ∃ p : Nat, i ≤ p ∧ p ≤ n ∧ (∀ q, i ≤ q → q < p → ¬ colonAt t n q ∧ ¬ hashAt t i q) ∧ vs = .int .i64 n ∧ vc = .bool false ∧ vp = .int .i64 p) (fun _ _ v => n - (intOf v).toNat)
    case atStart => exact ⟨i, Nat.le_refl _, by omega, fun q h1 h2 => by omega, rfl, rfl, rfl⟩
    case round =>
      obtain ⟨p, hp1, hp2, hno, rfl, rfl, rfl⟩ := hrel
      have HN := hid hno
      clear hno
      by_cases hlt : p < n
      · have hc := ht.at hlt
        obtain ⟨c, hcd⟩ : ∃ c, c = t p := ⟨_, rfl⟩
        rw [← hcd] at hc
        have HC := hid hcd
        clear hcd
        have next : ¬ colonAt t n p → ¬ hashAt t i p → ∀ q, i ≤ q → q < p + 1 → ¬ colonAt t n q ∧ ¬ hashAt t i q := fun h1 h2 q g1 g2 => by
          by_cases hq : q = p
          · rw [hq]; exact ⟨h1, h2⟩
          · exact HN.out q g1 (by omega)
        have NX := hid next
        clear next
        by_cases h58 : c = 58
        · subst h58
          have g35 : hashAt t i p → False := fun h => by have := h.1; have := HC.out; omega
          by_cases hse : p + 1 = n
          · have g1 : ((p : Int) + 1 == n) = true := by simp; omega
            have HS : Hid (Stop t n i p true) := ⟨hp1, hp2, HN.out, .inl ⟨rfl, hlt, HC.out.symm, .inl hse⟩⟩
            clear hse
            go_wp2
            go_meet
            case rel => exact ⟨⟨p, true, HS.out, rfl, rfl⟩, rfl⟩
          · have g1 : ((p : Int) + 1 == n) = false := by simp; omega
            have hc1 := ht.at (k := p + 1) (by omega)
            have hlt1 : (p : Int) + 1 < n := by omega
            by_cases h32 : t (p + 1) = 32
            · have HS : Hid (Stop t n i p true) := ⟨hp1, hp2, HN.out, .inl ⟨rfl, hlt, HC.out.symm, .inr h32⟩⟩
              rw [h32] at hc1
              clear h32
              go_wp2
              go_meet
              case rel => exact ⟨⟨p, true, HS.out, rfl, rfl⟩, rfl⟩
            · have g2 : (t (p + 1) == 32) = false := by simpa using h32
              have HS : Hid (¬ colonAt t n p) := fun h => by rcases h.2 with h | h; (exact hse h); (exact h32 h)
              go_wp2
              go_round
              case rel => exact ⟨p + 1, by omega, by omega, NX.out HS.out g35, rfl, rfl, by go_num⟩
              case measure => simp [intOf]; omega
        · have g58 : (c == 58) = false := by simpa using h58
          have HS : Hid (¬ colonAt t n p) := fun h => h58 (by rw [HC.out]; exact h.1)
          by_cases h35 : c = 35
          · subst h35
            by_cases hip : i < p
            · have hip' : (i : Int) < p := by omega
              have hc1 := ht.at (k := p - 1) (by omega)
              by_cases h32 : t (p - 1) = 32
              · have HP : Hid (Stop t n i p false) := ⟨hp1, hp2, HN.out, .inr ⟨rfl, .inl ⟨hlt, HC.out.symm, hip, h32⟩⟩⟩
                rw [h32] at hc1
                clear h32
                go_wp2
                go_meet
                case rel => exact ⟨⟨p, false, HP.out, rfl, rfl⟩, rfl⟩
              · have g2 : (t (p - 1) == 32) = false := by simpa using h32
                have HP : Hid (¬ hashAt t i p) := fun h => h32 h.2.2
                go_wp2
                go_round
                case rel => exact ⟨p + 1, by omega, by omega, NX.out HS.out HP.out, rfl, rfl, by go_num⟩
                case measure => simp [intOf]; omega
            · have hip' : ¬ (i : Int) < p := by omega
              have HP : Hid (¬ hashAt t i p) := fun h => hip h.2.1
              go_wp2
              go_round
              case rel => exact ⟨p + 1, by omega, by omega, NX.out HS.out HP.out, rfl, rfl, by go_num⟩
              case measure => simp [intOf]; omega
          · have g35 : (c == 35) = false := by simpa using h35
            have HP : Hid (¬ hashAt t i p) := fun h => h35 (by rw [HC.out]; exact h.1)
            go_wp2
            go_round
            case rel => exact ⟨p + 1, by omega, by omega, NX.out HS.out HP.out, rfl, rfl, by go_num⟩
            case measure => simp [intOf]; omega
      · have hpn : p = n := by omega
        subst hpn
        have HP : Hid (Stop t p i p false) := ⟨hp1, hp2, HN.out, .inr ⟨rfl, .inr rfl⟩⟩
        go_wp2
        go_meet
        case rel => exact ⟨⟨p, false, HP.out, rfl, rfl⟩, rfl⟩
  case rest =>
    obtain ⟨⟨s, c, hstop, rfl, rfl⟩, rfl⟩ := hcut
    have hs1 := hstop.1
    have hs2 := hstop.2.1
    have HS := hid hstop
    clear hstop
    go_wp2
    go_loop [11, 12] (fun ve vq => ∃ m : Nat, i ≤ m ∧ m ≤ s ∧ (∀ q, m ≤ q → q < s → t q = 32) ∧ ve = .int .i64 i ∧ vq = .int .i64 ((m : Int) - 1)) (fun _ v => (intOf v + 1).toNat)
    case atStart => exact ⟨s, hs1, Nat.le_refl _, fun q h1 h2 => by omega, rfl, rfl⟩
    case round =>
      obtain ⟨m, hm1, hm2, hsp, rfl, rfl⟩ := hrel
      have HQ := hid hsp
      clear hsp
      by_cases hlt : i < m
      · have hge : (i : Int) ≤ (m : Int) - 1 := by omega
        have hc := ht.at (k := m - 1) (by omega)
        obtain ⟨d, hcd⟩ : ∃ d, d = t (m - 1) := ⟨_, rfl⟩
        rw [← hcd] at hc
        have HC := hid hcd
        clear hcd
        by_cases h32 : d = 32
        · subst h32
          go_wp2
          go_round
          case rel =>
            refine ⟨m - 1, by omega, by omega, fun q h1 h2 => ?_, rfl, vint (by omega)⟩
            by_cases hq : q = m - 1
            · rw [hq]; exact HC.out.symm
            · exact HQ.out q (by omega) h2
          case measure => simp [intOf]; omega
        · have g32 : (d == 32) = false := by simpa using h32
          go_wp2
          go_ret3
          exact ⟨⟨m, s, c, ret3 (by omega), PS_of HS.out hm1 hm2 HQ.out (.inr (by rw [← HC.out]; exact h32))⟩, rfl⟩
      · have hm : m = i := by omega
        subst hm
        go_wp2
        go_ret3
        exact ⟨⟨m, s, c, rfl, PS_of HS.out (Nat.le_refl _) hs1 HQ.out (.inl rfl)⟩, rfl⟩
end Go.Proofs.Qxb6603083aMods.Tx
