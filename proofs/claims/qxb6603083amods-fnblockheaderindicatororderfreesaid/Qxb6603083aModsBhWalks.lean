/- The contracts of blockHeader, ZZBlockHeader, isChompB1, isIndentDigitB1: over the seat's translation. -/
import Derived.Test.Qxb6603083aModsBhPlain
namespace Go.Proofs.Qxb6603083aMods.Tx
open Go.RowKit
set_option linter.unusedVariables false
set_option linter.unusedSimpArgs false

set_option maxHeartbeats 400000 in
theorem chomp_any (c : Int) (w : World) : Calls Trym.prog 12 #[.int .u8 c] w fun e w' => e = .returned (.bool (isC c)) ∧ w = w' := by
  by_cases h1 : c = 43
  · subst h1
    go_enter Trym.func12, Trym.ntmps12
    go_wp2
    go_ret
    exact ⟨rfl, rfl⟩
  by_cases h2 : c = 45
  · subst h2
    go_enter Trym.func12, Trym.ntmps12
    go_wp2
    go_ret
    exact ⟨rfl, rfl⟩
  rw [(isC_not c).2 ⟨h1, h2⟩]
  have g1 : (c == 43) = false := by simpa using h1
  have g2 : (c == 45) = false := by simpa using h2
  clear h1 h2
  go_enter Trym.func12, Trym.ntmps12
  go_wp2
  go_ret
  exact ⟨rfl, rfl⟩

set_option maxHeartbeats 400000 in
theorem digit_any (c : Int) (w : World) : Calls Trym.prog 13 #[.int .u8 c] w fun e w' => e = .returned (.bool (isD c)) ∧ w = w' := by
  by_cases h1 : 49 ≤ c
  · by_cases h2 : c ≤ 57
    · rw [(isD_iff c).2 ⟨h1, h2⟩]
      go_enter Trym.func13, Trym.ntmps13
      go_wp2
      go_ret
      exact ⟨rfl, rfl⟩
    · rw [(isD_not c).2 (by omega)]
      go_enter Trym.func13, Trym.ntmps13
      go_wp2
      go_ret
      exact ⟨rfl, rfl⟩
  · rw [(isD_not c).2 (by omega)]
    go_enter Trym.func13, Trym.ntmps13
    go_wp2
    go_ret
    exact ⟨rfl, rfl⟩

set_option maxHeartbeats 400000 in
theorem header_past (a : Option Addr) (n cap : Nat) (i : Int) (h : (n : Int) ≤ i) (w : World) :
    Calls Trym.prog 21 #[.slice a n cap, .int .i64 i] w fun r w' => r = .returned (.tuple #[.int .i64 0, .bool true]) ∧ w = w' := by
  go_enter Trym.func21, Trym.ntmps21
  go_wp2
  refine wp_loop_rounds 1 ?_
  rw [rounds_succ]
  go_wp2
  go_ret2
  exact ⟨rfl, rfl⟩

set_option maxHeartbeats 1000000 in
theorem header_loop (b off n cap i : Nat) (t : Nat → Int) (hn : (n : Int) ≤ 1048576) (hi : i ≤ n) (RI : Int) (RO : Bool) (hR : bh t n i = (RI, RO)) (w : World) (ht : TextAt w b off n t) :
    Calls Trym.prog 21 #[.slice (some ⟨b, off, none⟩) n cap, .int .i64 i] w fun r w' => r = .returned (.tuple #[.int .i64 RI, .bool RO]) ∧ w = w' := by
  have HR := hid hR
  clear hR
  go_enter Trym.func21, Trym.ntmps21
  go_wp2
  go_loop [1, 4, 6] (fun vi vd vc => ∃ (j : Nat) (d : Int) (ch : Bool), j ≤ n ∧ 0 ≤ d ∧ d ≤ 9 ∧ Hid (bhF t n (n - j) ch d j = (RI, RO)) ∧ vi = .int .i64 j ∧ vd = .int .i64 d ∧ vc = .bool ch) (fun v _ _ => n - (intOf v).toNat)
  case atStart => exact ⟨i, 0, false, hi, by omega, by omega, HR.out, rfl, rfl, rfl⟩
  case round =>
    obtain ⟨j, d, ch, hj, hd1, hd2, HB, rfl, rfl, rfl⟩ := hrel
    by_cases hlt : j < n
    · have hf : n - j = (n - (j + 1)) + 1 := by omega
      have hc := ht.at hlt
      have hb := HB.out
      rw [hf] at hb
      clear HB hf
      have hrs := rest_any b off n cap j t hn hlt w ht
      generalize hcd : t j = c at hc
      by_cases hC : c = 43 ∨ c = 45
      · have hCC : isC (t j) = true := by rw [hcd]; exact (isC_iff c).2 hC
        cases ch with
        | false =>
          rw [bhF_C hCC] at hb
          have HB := hid hb
          clear hb hrs hCC hcd
          rcases hC with rfl | rfl
          all_goals
            go_wp2
            go_round
            case rel => exact ⟨j + 1, d, true, by omega, hd1, hd2, HB.out, by go_num, rfl, rfl⟩
            case measure => simp [intOf]; omega
        | true =>
          rw [bhF_stop (.inr rfl) (.inl (C_notD hCC))] at hb
          have HB := hid hb
          clear hb hrs hCC
          have HC := hid hcd
          clear hcd
          rcases hC with rfl | rfl
          all_goals
            go_wp2
            go_ret2
            have h := HB.out
            rw [HC.out] at h
            simp only [Prod.mk.injEq] at h
            obtain ⟨rfl, rfl⟩ := h
            exact ⟨rfl, rfl⟩
      · have hCC : isC (t j) = false := by rw [hcd]; exact (isC_not c).2 (by omega)
        have g43 : (c == 43) = false := by simp; omega
        have g45 : (c == 45) = false := by simp; omega
        by_cases hD : 49 ≤ c ∧ c ≤ 57
        · have hDD : isD (t j) = true := by rw [hcd]; exact (isD_iff c).2 hD
          obtain ⟨hD1, hD2⟩ := hD
          by_cases hd0 : d = 0
          · subst hd0
            rw [bhF_D hDD, hcd] at hb
            have HB := hid hb
            clear hb hrs hCC hDD hC hcd
            go_wp2
            go_round
            case rel => exact ⟨j + 1, c - 48, ch, by omega, by omega, by omega, HB.out, by go_num, rfl, rfl⟩
            case measure => simp [intOf]; omega
          · rw [bhF_stop (.inl hCC) (.inr hd0)] at hb
            have gd : (d == 0) = false := by simpa using hd0
            have HB := hid hb
            have HC := hid hcd
            clear hb hrs hCC hDD hC hcd
            have g32 : (c == 32) = false := by simp; omega
            go_wp2
            go_ret2
            have h := HB.out
            rw [HC.out, g32] at h
            simp only [Prod.mk.injEq, Bool.false_and] at h
            obtain ⟨rfl, rfl⟩ := h
            exact ⟨rfl, rfl⟩
        · have hDD : isD (t j) = false := by rw [hcd]; exact (isD_not c).2 hD
          rw [bhF_stop (.inl hCC) (.inl hDD)] at hb
          have HB := hid hb
          have HC := hid hcd
          have HK := hid hrs
          clear hb hrs hCC hDD hC hcd
          by_cases h32 : c = 32
          · subst h32
            go_wp2_with (go_at_call 24; refine (HK.out).mono ?_; rintro e w' ⟨rfl, rfl⟩)
            go_ret2
            have h := HB.out
            rw [HC.out] at h
            simp only [Prod.mk.injEq] at h
            obtain ⟨rfl, rfl⟩ := h
            exact ⟨rfl, rfl⟩
          · have g32 : (c == 32) = false := by simpa using h32
            rcases (show c < 49 ∨ 57 < c from by omega) with hx | hx
            all_goals
              go_wp2
              go_ret2
              have h := HB.out
              rw [HC.out, g32] at h
              simp only [Prod.mk.injEq, Bool.false_and] at h
              obtain ⟨rfl, rfl⟩ := h
              exact ⟨rfl, rfl⟩
    · have hjn : j = n := by omega
      subst hjn
      go_wp2
      go_ret2
      have h := HB.out
      rw [Nat.sub_self] at h
      simp only [bhF, Prod.mk.injEq] at h
      obtain ⟨rfl, rfl⟩ := h
      exact ⟨rfl, rfl⟩

set_option maxHeartbeats 400000 in
theorem zzheader_past (a : Option Addr) (n cap : Nat) (i : Int) (h : (n : Int) ≤ i) (w : World) :
    Calls Trym.prog 9 #[.slice a n cap, .int .i64 i] w fun r w' => r = .returned (.tuple #[.int .i64 0, .bool true]) ∧ w = w' := by
  go_enter Trym.func9, Trym.ntmps9
  go_wp2_with (go_at_call 21; refine (header_past _ _ _ _ h _).mono ?_; rintro e w' ⟨rfl, rfl⟩)
  go_ret2
  exact ⟨rfl, rfl⟩
set_option maxHeartbeats 400000 in
theorem zzheader_in (b off n cap i : Nat) (t : Nat → Int) (hn : (n : Int) ≤ 1048576) (hi : i ≤ n) (RI : Int) (RO : Bool) (hR : bh t n i = (RI, RO)) (w : World) (ht : TextAt w b off n t) :
    Calls Trym.prog 9 #[.slice (some ⟨b, off, none⟩) n cap, .int .i64 i] w fun r w' => r = .returned (.tuple #[.int .i64 RI, .bool RO]) ∧ w = w' := by
  have HR := hid hR
  clear hR
  go_enter Trym.func9, Trym.ntmps9
  go_wp2_with (go_at_call 21; refine (header_loop b off n cap i t hn hi RI RO HR.out _ ht).mono ?_; rintro r w' ⟨rfl, rfl⟩)
  go_ret2
  exact ⟨rfl, rfl⟩

set_option maxRecDepth 20000 in
set_option maxHeartbeats 400000 in
theorem shape_past (a : Option Addr) (n cap : Nat) (i : Int) (h : (n : Int) ≤ i) (w : World) :
    Calls Trym.prog 10 #[.slice a n cap, .int .i64 i] w fun r w' => r = .returned (.tuple #[.int .i64 0, .bool true]) ∧ w = w' := by
  go_enter Trym.func10, Trym.ntmps10
  go_wp2_with fail
  go_ret2
  exact ⟨rfl, rfl⟩
end Go.Proofs.Qxb6603083aMods.Tx
