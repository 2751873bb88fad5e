/- The contracts of skipSpaces, spaceOrEnd, restIsComment and of the guards zzBytes: over the seat's translation. -/
import Derived.Test.Qxb6603083aModsProg
import Derived.Test.Qxb6603083aModsTxPlain
import Derived.WalkKit
import Derived.WalkSpells
import Derived.WalkSmall
namespace Go.Proofs.Qxb6603083aMods.Tx
open Go.RowKit
set_option linter.unusedVariables false
set_option linter.unusedSimpArgs false

set_option maxHeartbeats 400000 in
theorem skip_any (b off n cap i : Nat) (t : Nat → Int) (hn : (n : Int) ≤ 1048576) (hi : i ≤ n) (w : World) (ht : TextAt w b off n t) :
    Calls Trym.prog 26 #[.slice (some ⟨b, off, none⟩) n cap, .int .i64 i] w fun e w' => e = .returned (.int .i64 (skip t n i : Nat)) ∧ w = w' := by
  go_enter Trym.func26, Trym.ntmps26
  go_wp2
  go_loop [1] (fun v => ∃ j : Nat, i ≤ j ∧ j ≤ n ∧ (∀ k, i ≤ k → k < j → t k = 32) ∧ v = .int .i64 j) (fun v => n - (intOf v).toNat)
  case atStart => exact ⟨i, Nat.le_refl _, hi, fun k h1 h2 => by omega, rfl⟩
  case round =>
    obtain ⟨j, hj1, hj2, hsp, rfl⟩ := hrel
    have HS := hid hsp
    clear hsp
    by_cases hlt : j < n
    · have hc := ht.at hlt
      obtain ⟨c, hcd⟩ : ∃ c, c = t j := ⟨_, rfl⟩
      rw [← hcd] at hc
      have HC := hid hcd
      clear hcd
      by_cases h32 : c = 32
      · subst h32
        go_wp2
        go_round
        case rel =>
          refine ⟨j + 1, by omega, by omega, fun k h1 h2 => ?_, by go_num⟩
          by_cases hk : k = j
          · rw [hk]; exact HC.out.symm
          · exact HS.out k h1 (by omega)
        case measure => simp [intOf]; omega
      · have hne : (c == 32) = false := by simpa using h32
        have h5 : j = skip t n i := skip_eq t n i j hj1 hj2 HS.out (fun _ => by rw [← HC.out]; exact h32)
        have H5 := hid h5
        clear h5 h32
        go_wp2
        go_ret
        exact ⟨by rw [← H5.out]; rfl, rfl⟩
    · have h5 : j = skip t n i := skip_eq t n i j hj1 hj2 HS.out (fun h => absurd h hlt)
      have H5 := hid h5
      clear h5
      go_wp2
      go_ret
      exact ⟨by rw [← H5.out]; rfl, rfl⟩

set_option maxHeartbeats 400000 in
theorem space_end (b off n cap i : Nat) (t : Nat → Int) (hi : i = n) (w : World) :
    Calls Trym.prog 25 #[.slice (some ⟨b, off, none⟩) n cap, .int .i64 i] w fun e w' => e = .returned (.bool true) ∧ w = w' := by
  subst hi
  go_enter Trym.func25, Trym.ntmps25
  go_wp2
  go_ret
  exact ⟨rfl, rfl⟩
set_option maxHeartbeats 400000 in
theorem space_in (b off n cap i : Nat) (t : Nat → Int) (hi : i < n) (w : World) (ht : TextAt w b off n t) :
    Calls Trym.prog 25 #[.slice (some ⟨b, off, none⟩) n cap, .int .i64 i] w fun e w' => e = .returned (.bool (t i == 32)) ∧ w = w' := by
  have hc := ht.at hi
  obtain ⟨c, hcd⟩ : ∃ c, c = t i := ⟨_, rfl⟩
  rw [← hcd] at hc ⊢
  clear hcd
  have hne : ((i : Int) == n) = false := by simp; omega
  go_enter Trym.func25, Trym.ntmps25
  go_wp2
  go_ret
  exact ⟨rfl, rfl⟩
/-- spaceOrEnd at i ≤ n -/
def spEnd (t : Nat → Int) (n i : Nat) : Bool := i == n || t i == 32
theorem space_any (b off n cap i : Nat) (t : Nat → Int) (hi : i ≤ n) (w : World) (ht : TextAt w b off n t) :
    Calls Trym.prog 25 #[.slice (some ⟨b, off, none⟩) n cap, .int .i64 i] w fun e w' => e = .returned (.bool (spEnd t n i)) ∧ w = w' := by
  by_cases h : i = n
  · have e : spEnd t n i = true := by simp [spEnd, h]
    rw [e]; exact space_end b off n cap i t h w
  · have e : spEnd t n i = (t i == 32) := by simp [spEnd, h]
    rw [e]; exact space_in b off n cap i t (by omega) w ht

/-- restIsComment -/
def rest (t : Nat → Int) (n i : Nat) : Bool := skip t n i == n || (decide (i < skip t n i) && t (skip t n i) == 35)
set_option maxHeartbeats 400000 in
theorem rest_any (b off n cap i : Nat) (t : Nat → Int) (hn : (n : Int) ≤ 1048576) (hi : i < n) (w : World) (ht : TextAt w b off n t) :
    Calls Trym.prog 24 #[.slice (some ⟨b, off, none⟩) n cap, .int .i64 i] w fun e w' => e = .returned (.bool (rest t n i)) ∧ w = w' := by
  obtain ⟨g1, g2, g3, g4⟩ := skip_spec t n i (by omega)
  have hk := skip_any b off n cap i t hn (by omega) w ht
  unfold rest
  clear g3 g4
  generalize skip t n i = j at *
  have HK := hid hk
  clear hk
  by_cases h1 : j = n
  · subst h1
    go_enter Trym.func24, Trym.ntmps24
    go_wp2_with (go_at_call 26; refine (HK.out).mono ?_; rintro e w' ⟨rfl, rfl⟩)
    go_ret
    exact ⟨by simp, rfl⟩
  · have hj : j < n := by omega
    have hc := ht.at hj
    have hne : ((j : Int) == n) = false := by simp; omega
    have hne' : (j == n) = false := by simp; omega
    by_cases h2 : i < j
    · have h2' : (i : Int) < j := by omega
      rw [hne', decide_eq_true h2]
      go_enter Trym.func24, Trym.ntmps24
      go_wp2_with (go_at_call 26; refine (HK.out).mono ?_; rintro e w' ⟨rfl, rfl⟩)
      go_ret
      exact ⟨by simp, rfl⟩
    · have h2' : ¬ (i : Int) < j := by omega
      rw [hne', decide_eq_false h2]
      go_enter Trym.func24, Trym.ntmps24
      go_wp2_with (go_at_call 26; refine (HK.out).mono ?_; rintro e w' ⟨rfl, rfl⟩)
      go_ret
      exact ⟨by simp, rfl⟩

set_option maxHeartbeats 400000 in
theorem bytes8_no (a : Option Addr) (n cap : Nat) (i : Int) (h : (1048576 : Int) < n) (w : World) :
    Calls Trym.prog 8 #[.slice a n cap, .int .i64 i] w fun r w' => r = .returned (.bool false) ∧ w = w' := by
  go_enter Trym.func8, Trym.ntmps8
  go_wp2
  go_ret
  exact ⟨rfl, rfl⟩
set_option maxHeartbeats 400000 in
theorem bytes8_yes (a : Option Addr) (n cap : Nat) (i : Int) (h : (n : Int) ≤ 1048576) (w : World) :
    Calls Trym.prog 8 #[.slice a n cap, .int .i64 i] w fun r w' => r = .returned (.bool true) ∧ w = w' := by
  go_enter Trym.func8, Trym.ntmps8
  go_wp2
  go_ret
  exact ⟨rfl, rfl⟩
set_option maxHeartbeats 400000 in
theorem bytes11_no (a : Option Addr) (n cap : Nat) (i : Int) (h : (1048576 : Int) < n) (w : World) :
    Calls Trym.prog 11 #[.slice a n cap, .int .i64 i] w fun r w' => r = .returned (.bool false) ∧ w = w' := by
  go_enter Trym.func11, Trym.ntmps11
  go_wp2
  go_ret
  exact ⟨rfl, rfl⟩
set_option maxHeartbeats 400000 in
theorem bytes11_yes (a : Option Addr) (n cap : Nat) (i : Int) (h : (n : Int) ≤ 1048576) (w : World) :
    Calls Trym.prog 11 #[.slice a n cap, .int .i64 i] w fun r w' => r = .returned (.bool true) ∧ w = w' := by
  go_enter Trym.func11, Trym.ntmps11
  go_wp2
  go_ret
  exact ⟨rfl, rfl⟩
set_option maxHeartbeats 400000 in
theorem bytes14_no (a : Option Addr) (n cap : Nat) (i : Int) (h : (1048576 : Int) < n) (w : World) :
    Calls Trym.prog 14 #[.slice a n cap, .int .i64 i] w fun r w' => r = .returned (.bool false) ∧ w = w' := by
  go_enter Trym.func14, Trym.ntmps14
  go_wp2
  go_ret
  exact ⟨rfl, rfl⟩
set_option maxHeartbeats 400000 in
theorem bytes14_yes (a : Option Addr) (n cap : Nat) (i : Int) (h : (n : Int) ≤ 1048576) (w : World) :
    Calls Trym.prog 14 #[.slice a n cap, .int .i64 i] w fun r w' => r = .returned (.bool true) ∧ w = w' := by
  go_enter Trym.func14, Trym.ntmps14
  go_wp2
  go_ret
  exact ⟨rfl, rfl⟩
set_option maxHeartbeats 400000 in
theorem bytes17_no (a : Option Addr) (n cap : Nat) (i : Int) (h : (1048576 : Int) < n) (w : World) :
    Calls Trym.prog 17 #[.slice a n cap, .int .i64 i] w fun r w' => r = .returned (.bool false) ∧ w = w' := by
  go_enter Trym.func17, Trym.ntmps17
  go_wp2
  go_ret
  exact ⟨rfl, rfl⟩
set_option maxHeartbeats 400000 in
theorem bytes17_yes (a : Option Addr) (n cap : Nat) (i : Int) (h : (n : Int) ≤ 1048576) (w : World) :
    Calls Trym.prog 17 #[.slice a n cap, .int .i64 i] w fun r w' => r = .returned (.bool true) ∧ w = w' := by
  go_enter Trym.func17, Trym.ntmps17
  go_wp2
  go_ret
  exact ⟨rfl, rfl⟩
end Go.Proofs.Qxb6603083aMods.Tx
