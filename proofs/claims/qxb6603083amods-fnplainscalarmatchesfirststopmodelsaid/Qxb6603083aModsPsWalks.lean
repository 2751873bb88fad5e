/- The contracts of plainScalar, ZZPlainScalar and plainScalarModelB1: over the seat's translation. -/
import Derived.Test.Qxb6603083aModsTxWalks
namespace Go.Proofs.Qxb6603083aMods.Tx
open Go.RowKit
set_option linter.unusedVariables false
set_option linter.unusedSimpArgs false

/-- What plainScalar and its model hand back. -/
def PSret (t : Nat → Int) (n i : Nat) (r : Ending) : Prop := ∃ (e s : Nat) (c : Bool), r = .returned (.tuple #[.int .i64 e, .int .i64 s, .bool c]) ∧ PS t n i e s c

set_option maxHeartbeats 400000 in
theorem plain_past (a : Option Addr) (n cap : Nat) (i : Int) (h : (n : Int) ≤ i) (w : World) :
    Calls Trym.prog 22 #[.slice a n cap, .int .i64 i] w fun r w' => r = .returned (.tuple #[.int .i64 i, .int .i64 n, .bool false]) ∧ w = w' := by
  go_enter Trym.func22, Trym.ntmps22
  go_wp2
  refine wp_loop_rounds 1 ?_
  rw [rounds_succ]
  go_wp2
  go_ret3
  exact ⟨rfl, rfl⟩

set_option maxHeartbeats 1000000 in
theorem plain_in (b off n cap i : Nat) (t : Nat → Int) (hn : (n : Int) ≤ 1048576) (hi : i ≤ n) (w : World) (ht : TextAt w b off n t) :
    Calls Trym.prog 22 #[.slice (some ⟨b, off, none⟩) n cap, .int .i64 i] w fun r w' => PSret t n i r ∧ w = w' := by
  go_enter Trym.func22, Trym.ntmps22
  go_wp2
  go_loop [4, 7] (fun ve vj => ∃ e j : Nat, Inv t n i e j ∧ ve = .int .i64 e ∧ vj = .int .i64 j) (fun _ v => n - (intOf v).toNat)
  case atStart => exact ⟨i, i, Inv_start t n i hi, rfl, rfl⟩
  case round =>
    obtain ⟨e, j, hinv, rfl, rfl⟩ := hrel
    have hb1 := hinv.1
    have hb2 := hinv.2.1
    have hb3 := hinv.2.2.1
    have HI := hid hinv
    clear hinv
    by_cases hlt : j < n
    · have hc := ht.at hlt
      obtain ⟨c, hcd⟩ : ∃ c, c = t j := ⟨_, rfl⟩
      rw [← hcd] at hc
      have HC := hid hcd
      clear hcd
      by_cases h58 : c = 58
      · subst h58
        have hsp := space_any b off n cap (j + 1) t (by omega) w ht
        have e1 : ((j + 1 : Nat) : Int) = (j : Int) + 1 := by omega
        rw [e1] at hsp
        by_cases hse : spEnd t n (j + 1) = true
        · rw [hse] at hsp
          have HS := hid hsp
          have HE := hid hse
          clear hsp hse
          go_wp2_with (go_at_call 25; refine (HS.out).mono ?_; rintro e w' ⟨rfl, rfl⟩)
          go_ret3
          exact ⟨⟨e, j, true, rfl, Inv_colon HI.out hlt HC.out.symm (by have := HE.out; simpa [spEnd] using this)⟩, rfl⟩
        · rw [Bool.eq_false_iff.2 hse] at hsp
          have HS := hid hsp
          have HE := hid hse
          clear hsp hse
          go_wp2_with (go_at_call 25; refine (HS.out).mono ?_; rintro e w' ⟨rfl, rfl⟩)
          go_round
          case rel => exact ⟨j + 1, j + 1, Inv_plain HI.out hlt (by rw [← HC.out]; decide) (fun h => HE.out (by simpa [spEnd] using h.2)), by go_num, by go_num⟩
          case measure => simp [intOf]; omega
      · have g58 : (c == 58) = false := by simpa using h58
        by_cases h32 : c = 32
        · subst h32
          obtain ⟨k1, k2, k3⟩ := Inv_spaces HI.out hlt HC.out.symm
          have k4 := (skip_spec t n j (by omega)).2.1
          have hk := skip_any b off n cap j t hn (by omega) w ht
          generalize skip t n j = k at *
          have HK := hid hk
          have K1 := hid k1
          have K2 := hid k2
          clear hk k1 k2
          by_cases hkn : k < n
          · have hck := ht.at hkn
            obtain ⟨d, hdd⟩ : ∃ d, d = t k := ⟨_, rfl⟩
            rw [← hdd] at hck
            have HD := hid hdd
            clear hdd
            by_cases h35 : d = 35
            · subst h35
              go_wp2_with (go_at_call 26; refine (HK.out).mono ?_; rintro e w' ⟨rfl, rfl⟩)
              go_ret3
              exact ⟨⟨e, k, false, rfl, K1.out ⟨hkn, HD.out.symm⟩⟩, rfl⟩
            · have g35 : (d == 35) = false := by simpa using h35
              go_wp2_with (go_at_call 26; refine (HK.out).mono ?_; rintro e w' ⟨rfl, rfl⟩)
              go_round
              case rel => exact ⟨e, k, K2.out (fun h => h35 (by rw [HD.out]; exact h.2)), rfl, rfl⟩
              case measure => simp [intOf]; omega
          · go_wp2_with (go_at_call 26; refine (HK.out).mono ?_; rintro e w' ⟨rfl, rfl⟩)
            go_round
            case rel => exact ⟨e, k, K2.out (fun h => hkn h.1), rfl, rfl⟩
            case measure => simp [intOf]; omega
        · have g32 : (c == 32) = false := by simpa using h32
          go_wp2
          go_round
          case rel => exact ⟨j + 1, j + 1, Inv_plain HI.out hlt (by rw [← HC.out]; exact h32) (fun h => h58 (by rw [HC.out]; exact h.1)), by go_num, by go_num⟩
          case measure => simp [intOf]; omega
    · have hjn : j = n := by omega
      subst hjn
      go_wp2
      go_ret3
      exact ⟨⟨e, j, false, rfl, Inv_end HI.out⟩, rfl⟩

set_option maxHeartbeats 400000 in
theorem zzplain_past (a : Option Addr) (n cap : Nat) (i : Int) (h : (n : Int) ≤ i) (w : World) :
    Calls Trym.prog 15 #[.slice a n cap, .int .i64 i] w fun r w' => r = .returned (.tuple #[.int .i64 i, .int .i64 n, .bool false]) ∧ w = w' := by
  go_enter Trym.func15, Trym.ntmps15
  go_wp2_with (go_at_call 22; refine (plain_past _ _ _ _ h _).mono ?_; rintro e w' ⟨rfl, rfl⟩)
  go_ret3
  exact ⟨rfl, rfl⟩
set_option maxHeartbeats 400000 in
theorem zzplain_in (b off n cap i : Nat) (t : Nat → Int) (hn : (n : Int) ≤ 1048576) (hi : i ≤ n) (w : World) (ht : TextAt w b off n t) :
    Calls Trym.prog 15 #[.slice (some ⟨b, off, none⟩) n cap, .int .i64 i] w fun r w' => PSret t n i r ∧ w = w' := by
  go_enter Trym.func15, Trym.ntmps15
  go_wp2_with (go_at_call 22; refine (plain_in b off n cap i t hn hi _ ht).mono ?_; rintro r w' ⟨⟨e, s, c, rfl, hps⟩, rfl⟩)
  go_ret3
  exact ⟨⟨e, s, c, rfl, hps⟩, rfl⟩
end Go.Proofs.Qxb6603083aMods.Tx
