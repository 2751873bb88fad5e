/- The contract of blockHeaderModelB1: over the seat's translation. -/
import Derived.Test.Qxb6603083aModsBhWalks
import Derived.Deep.CutBlock
import Derived.Deep.DeepCutAuto
import Derived.Deep.QuietTactic
import Derived.BigQuiet
namespace Go.Proofs.Qxb6603083aMods.Tx
open Go.RowKit
set_option linter.unusedVariables false
set_option linter.unusedSimpArgs false

def pairB (t : Nat → Int) (n i : Nat) : Bool := decide (i + 1 < n) && ((isC (t i) && isD (t (i + 1))) || (isD (t i) && isC (t (i + 1))))

set_option maxRecDepth 20000 in
set_option maxHeartbeats 2000000 in
theorem shape_in (b off n cap i : Nat) (t : Nat → Int) (hn : (n : Int) ≤ 1048576) (hi : i < n) (w : World) (ht : TextAt w b off n t) :
    Calls Trym.prog 10 #[.slice (some ⟨b, off, none⟩) n cap, .int .i64 i] w fun r w' => r = .returned (.tuple #[.int .i64 (md t n i).1, .bool (md t n i).2]) ∧ Below w.heap.size w w' := by
  have hlt : (i : Int) < n := by omega
  have hge : ¬ (n : Int) ≤ i := by omega
  go_enter Trym.func10, Trym.ntmps10
  go_upto_region 6 with fail
  go_cut [49] (fun v wx => v = .bool (pairB t n i) ∧ w = wx)
  case first =>
    have hc0 := ht.at hi
    by_cases h1 : i + 1 < n
    · have h1' : (i : Int) + 1 < n := by omega
      have hc1 := ht.at h1
      have HP : Hid (pairB t n i = ((isC (t i) && isD (t (i + 1))) || (isD (t i) && isC (t (i + 1))))) := by simp [Hid, pairB, h1]
      generalize t i = c0 at hc0 HP
      generalize t (i + 1) = c1 at hc1 HP
      by_cases hC : isC c0 = true
      · have hD := C_notD hC
        cases hD1 : isD c1
        all_goals
          go_wp2_with (first | (go_at_call 12; refine (chomp_any _ _).mono ?_; rintro e w' ⟨rfl, rfl⟩) | (go_at_call 13; refine (digit_any _ _).mono ?_; rintro e w' ⟨rfl, rfl⟩))
          go_meet
          case rel => exact ⟨vbool (by rw [HP.out, hC, hD, hD1]; rfl), rfl⟩
      · replace hC : isC c0 = false := by simpa using hC
        cases hD : isD c0
        · go_wp2_with (first | (go_at_call 12; refine (chomp_any _ _).mono ?_; rintro e w' ⟨rfl, rfl⟩) | (go_at_call 13; refine (digit_any _ _).mono ?_; rintro e w' ⟨rfl, rfl⟩))
          go_meet
          case rel => exact ⟨vbool (by rw [HP.out, hC, hD]; rfl), rfl⟩
        · cases hC1 : isC c1
          all_goals
            go_wp2_with (first | (go_at_call 12; refine (chomp_any _ _).mono ?_; rintro e w' ⟨rfl, rfl⟩) | (go_at_call 13; refine (digit_any _ _).mono ?_; rintro e w' ⟨rfl, rfl⟩))
            go_meet
            case rel => exact ⟨vbool (by rw [HP.out, hC, hD, hC1]; rfl), rfl⟩
    · have h1' : ¬ (i : Int) + 1 < n := by omega
      have HP : Hid (pairB t n i = false) := by simp [Hid, pairB, h1]
      go_wp2_with fail
      go_meet
      case rel => exact ⟨vbool (by rw [HP.out]), rfl⟩
  case rest =>
    obtain ⟨rfl, rfl⟩ := hcut
    go_upto_if 49 with fail
    go_cut [7, 8] (fun vh vd wx => vh = .int .i64 ((hd t n i).1 : Nat) ∧ vd = .int .i64 (hd t n i).2 ∧ w = wx)
    case first =>
      have hc0 := ht.at hi
      cases hp : pairB t n i
      · have h2 : ¬ (i + 1 < n ∧ isC (t i) = true ∧ isD (t (i + 1)) = true) := by rintro ⟨x, y, z⟩; simp [pairB, x, y, z] at hp
        have h3 : ¬ (i + 1 < n ∧ isD (t i) = true ∧ isC (t (i + 1)) = true) := by rintro ⟨x, y, z⟩; simp [pairB, x, y, z] at hp
        cases hC : isC (t i)
        · cases hD : isD (t i)
          · have HE : Hid (hd t n i = (0, 0)) := by show hd t n i = _; unfold hd; rw [if_neg h2, if_neg h3, if_neg (by simp [hC]), if_neg (by simp [hD])]
            clear h2 h3
            go_wp2_with (first | (go_at_call 12; refine (chomp_any _ _).mono ?_; rintro e w' ⟨rfl, rfl⟩) | (go_at_call 13; refine (digit_any _ _).mono ?_; rintro e w' ⟨rfl, rfl⟩))
            go_meet
            case rel => exact ⟨vint (by rw [HE.out]; rfl), vint (by rw [HE.out]), rfl⟩
          · have HE : Hid (hd t n i = (1, t i - 48)) := by show hd t n i = _; unfold hd; rw [if_neg h2, if_neg h3, if_neg (by simp [hC]), if_pos hD]
            have hb := (isD_iff _).1 hD
            clear h2 h3
            go_wp2_with (first | (go_at_call 12; refine (chomp_any _ _).mono ?_; rintro e w' ⟨rfl, rfl⟩) | (go_at_call 13; refine (digit_any _ _).mono ?_; rintro e w' ⟨rfl, rfl⟩))
            go_meet
            case rel => exact ⟨vint (by rw [HE.out]; rfl), vint (by rw [HE.out]), rfl⟩
        · have HE : Hid (hd t n i = (1, 0)) := by show hd t n i = _; unfold hd; rw [if_neg h2, if_neg h3, if_pos hC]
          clear h2 h3
          go_wp2_with (first | (go_at_call 12; refine (chomp_any _ _).mono ?_; rintro e w' ⟨rfl, rfl⟩) | (go_at_call 13; refine (digit_any _ _).mono ?_; rintro e w' ⟨rfl, rfl⟩))
          go_meet
          case rel => exact ⟨vint (by rw [HE.out]; rfl), vint (by rw [HE.out]), rfl⟩
      · have h1 : i + 1 < n := by simp [pairB] at hp; exact hp.1
        have h2 : (isC (t i) = true ∧ isD (t (i + 1)) = true) ∨ (isD (t i) = true ∧ isC (t (i + 1)) = true) := by simp [pairB] at hp; exact hp.2
        have h1' : (i : Int) + 1 < n := by omega
        have hc1 := ht.at h1
        rcases h2 with ⟨h2, h3⟩ | ⟨h2, h3⟩
        · have hD := C_notD h2
          have HE : Hid (hd t n i = (2, t (i + 1) - 48)) := by simp [Hid, hd, h1, h2, h3]
          have hb := (isD_iff _).1 h3
          go_wp2_with (first | (go_at_call 12; refine (chomp_any _ _).mono ?_; rintro e w' ⟨rfl, rfl⟩) | (go_at_call 13; refine (digit_any _ _).mono ?_; rintro e w' ⟨rfl, rfl⟩))
          go_meet
          case rel => exact ⟨vint (by rw [HE.out]; rfl), vint (by rw [HE.out]), rfl⟩
        · have HE : Hid (hd t n i = (2, t i - 48)) := by simp [Hid, hd, h1, h2, h3, D_notC h2]
          have hb := (isD_iff _).1 h2
          go_wp2_with (first | (go_at_call 12; refine (chomp_any _ _).mono ?_; rintro e w' ⟨rfl, rfl⟩) | (go_at_call 13; refine (digit_any _ _).mono ?_; rintro e w' ⟨rfl, rfl⟩))
          go_meet
          case rel => exact ⟨vint (by rw [HE.out]; rfl), vint (by rw [HE.out]), rfl⟩
    case rest =>
      obtain ⟨rfl, rfl, rfl⟩ := hcut
      obtain ⟨hk, hk2⟩ := hd_le t n i hi
      have HM : Hid (md t n i = ((hd t n i).2, tl t n (i + (hd t n i).1))) := rfl
      generalize (hd t n i).1 = h at *
      generalize (hd t n i).2 = d at *
      have e1 : (md t n i).1 = d := by rw [HM.out]
      have e2 : (md t n i).2 = tl t n (i + h) := by rw [HM.out]
      clear HM
      have E1 := hid e1
      have E2 := hid e2
      clear e1 e2
      by_cases hkn : i + h = n
      · have gk : ((i : Int) + h == n) = true := by simp; omega
        have HT : Hid (tl t n (i + h) = true) := by rw [hkn]; exact tl_end t n
        clear hkn
        go_wp2
        go_ret2
        exact ⟨by rw [E1.out, E2.out, HT.out]; rfl, Below.refl _ _⟩
      · have gk : ((i : Int) + h == n) = false := by simp; omega
        have hlt2 : (i : Int) + h < n := by omega
        have hck := ht.at (k := i + h) (by omega)
        by_cases h32 : t (i + h) = 32
        · rw [h32] at hck
          have HT : Hid (tl t n (i + h) = (skip t n (i + h + 1) == n || t (skip t n (i + h + 1)) == 35)) := by simp [Hid, tl, hkn, h32]
          clear h32 hkn
          go_wp2
          go_loop [10] (fun v => ∃ j : Nat, i + h + 1 ≤ j ∧ j ≤ n ∧ (∀ q, i + h + 1 ≤ q → q < j → t q = 32) ∧ v = .int .i64 j) (fun v => n - (intOf v).toNat)
          case atStart => exact ⟨i + h + 1, Nat.le_refl _, by omega, fun q h1 h2 => by omega, by go_num⟩
          case round =>
            obtain ⟨j, hj1, hj2, hsp, rfl⟩ := hrel
            have HS := hid hsp
            clear hsp
            by_cases hjn : j < n
            · have hc := ht.at hjn
              generalize hcd : t j = c at hc
              have HC := hid hcd
              clear hcd
              by_cases hc32 : c = 32
              · subst hc32
                go_wp2
                go_round
                case rel =>
                  refine ⟨j + 1, by omega, by omega, fun q h1 h2 => ?_, by go_num⟩
                  by_cases hq : q = j
                  · rw [hq]; exact HC.out
                  · exact HS.out q h1 (by omega)
                case measure => simp [intOf]; omega
              · have g32 : (c == 32) = false := by simpa using hc32
                have h5 : j = skip t n (i + h + 1) := skip_eq t n (i + h + 1) j hj1 hj2 HS.out (fun _ => by rw [HC.out]; exact hc32)
                have HF : Hid (tl t n (i + h) = (c == 35)) := by
                  have := HT.out
                  rw [← h5, HC.out] at this
                  rw [Hid, this]
                  have : (j == n) = false := by simp; omega
                  rw [this]; rfl
                clear h5 HT HS HC
                have gj : ((j : Int) == n) = false := by simp; omega
                have hjn' : (j : Int) < n := by omega
                go_wp2
                go_quiet (fail)
                go_wp2
                go_ret2
                exact ⟨by rw [E1.out, E2.out, HF.out]; rfl, below_drewN (Below.refl _ _) _⟩
            · have hj : j = n := by omega
              have h5 : j = skip t n (i + h + 1) := skip_eq t n (i + h + 1) j hj1 hj2 HS.out (fun h => absurd h hjn)
              have HF : Hid (tl t n (i + h) = true) := by
                have := HT.out
                rw [← h5] at this
                rw [Hid, this, hj]
                simp
              clear h5 HT HS
              subst hj
              have gj : ((j : Int) == j) = true := by simp
              go_wp2
              go_quiet (fail)
              go_wp2
              go_ret2
              exact ⟨by rw [E1.out, E2.out, HF.out]; rfl, below_drewN (Below.refl _ _) _⟩
        · have g32 : (t (i + h) == 32) = false := by simpa using h32
          have HT : Hid (tl t n (i + h) = false) := by simp [Hid, tl, hkn, h32]
          clear h32 hkn
          go_wp2
          go_ret2
          exact ⟨by rw [E1.out, E2.out, HT.out]; rfl, Below.refl _ _⟩
end Go.Proofs.Qxb6603083aMods.Tx
