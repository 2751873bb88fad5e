/- The walk of FnChosenAboveStepsByParent. -/
import Derived.Test.Qxb6603739aModsChLaws
import Derived.Deep.QuietTactic
import Derived.BigQuiet
namespace Go.Proofs.Qxb6603739aMods.Ch
open Go.RowKit Go.Maps
set_option linter.unusedVariables false
set_option linter.unusedSimpArgs false

/-- A map value is handed back that answers f, behind whatever draws. -/
def madeTabD (f : ByteArray → Bool) (e : Ending) (w' : World) : Prop := ∃ v, e = .returned v ∧ ∀ k, Look (w'.drewN k) v f
theorem Tab.drewN {w : World} {b n : Nat} {f : ByteArray → Bool} (h : Tab w b n f) (k : Nat) : Tab (w.drewN k) b n f := by
  obtain ⟨D, hown, hat⟩ := h
  exact ⟨D, hown, hat⟩
theorem build_anyD (a : Option Addr) (n cap : Nat) (ks : Nat → ByteArray) (a2 : Option Addr) (m cap2 : Nat) (vs : Nat → Bool) (w : World) (hn : (n : Int) ≤ 65536) (hm : (m : Int) ≤ 65536)
    (hnil : a = none → n = 0 ∧ cap = 0) (hks : StrRow w a n ks) (hvs : BoolRow w a2 m vs) :
    Calls Trym.prog 8 #[.slice a n cap, .slice a2 m cap2] w fun e w' => madeTabD (ch ks vs n) e w' ∧ Below w.heap.size w w' := by
  cases a with
  | none =>
    obtain ⟨rfl, rfl⟩ := hnil rfl
    refine (build_nil (.slice a2 m cap2) w).mono ?_
    rintro e w' ⟨rfl, rfl⟩
    exact ⟨⟨_, rfl, fun k => look_nil _⟩, Below.refl _ _⟩
  | some x =>
    by_cases h0 : n = 0
    · subst h0
      refine (build_empty x cap (.slice a2 m cap2) w).mono ?_
      rintro e w' ⟨rfl, htab, hb⟩
      exact ⟨⟨_, rfl, fun k => (htab.drewN k).look⟩, hb⟩
    · obtain ⟨b, off, hx, hb, _⟩ := hks 0 (by omega)
      cases hx
      refine (build_row b off n cap a2 m cap2 ks vs w (by omega) hn hm hb (fun k hk => ?_) (fun k hk => ?_) hvs.1 hvs.2).mono ?_
      · obtain ⟨b', off', h1, h2, h3, h4⟩ := hks k hk
        cases h1
        exact h3
      · obtain ⟨b', off', h1, h2, h3, h4⟩ := hks k hk
        exact h4
      · rintro e w' ⟨rfl, htab, hb⟩
        exact ⟨⟨_, rfl, fun k => (htab.drewN k).look⟩, hb⟩

set_option maxRecDepth 20000 in
set_option maxHeartbeats 2000000 in
theorem steps (a : Option Addr) (n cap : Nat) (ks : Nat → ByteArray) (a2 : Option Addr) (m cap2 : Nat) (vs : Nat → Bool) (p x : ByteArray) (w : World)
    (hnm : n ≤ maxLen) (hnil : a = none → n = 0 ∧ cap = 0) (hks : StrRow w a n ks) (hvs : BoolRow w a2 m vs) :
    Calls Trym.prog 4 #[.slice a n cap, .slice a2 m cap2, .string p, .string x] w fun e w' => e = .returned (.bool true) ∧ Below w.heap.size w w' := by
  have H10 := hid (bytes10_any a n cap ks a2 m cap2 p x w hnm hks)
  by_cases h1 : (65536 : Int) < n
  · go_enter Trym.func4, Trym.ntmps4
    go_wp2_with (go_at_call 10; refine (H10.out).mono ?_; rintro e w' ⟨⟨r, rfl⟩, rfl⟩; cases r)
    all_goals
      go_ret
      exact ⟨rfl, Below.refl _ _⟩
  by_cases h2 : (65536 : Int) < m
  · go_enter Trym.func4, Trym.ntmps4
    go_wp2_with (go_at_call 10; refine (H10.out).mono ?_; rintro e w' ⟨⟨r, rfl⟩, rfl⟩; cases r)
    all_goals
      go_ret
      exact ⟨rfl, Below.refl _ _⟩
  by_cases h3 : (4096 : Int) < p.size
  · go_enter Trym.func4, Trym.ntmps4
    go_wp2_with (go_at_call 10; refine (H10.out).mono ?_; rintro e w' ⟨⟨r, rfl⟩, rfl⟩; cases r)
    all_goals
      go_ret
      exact ⟨rfl, Below.refl _ _⟩
  by_cases h4 : (4096 : Int) < x.size
  · go_enter Trym.func4, Trym.ntmps4
    go_wp2_with (go_at_call 10; refine (H10.out).mono ?_; rintro e w' ⟨⟨r, rfl⟩, rfl⟩; cases r)
    all_goals
      go_ret
      exact ⟨rfl, Below.refl _ _⟩
  have H7 := fun y => hid (fit_any a n cap ks y w (by omega) hks)
  have H8 := hid (build_anyD a n cap ks a2 m cap2 vs w (by omega) (by omega) hnil hks hvs)
  generalize ch ks vs n = f at H8
  have hjs : ((join p x).size : Int) ≤ 1048576 := by rw [join_size]; omega
  have HJ : Hid (∀ v w, Look w v f → Calls Trym.prog 9 #[v, .string (p ++ ⟨#[47]⟩ ++ x)] w fun e w' => e = .returned (.bool (above f (join p x))) ∧ w = w') := fun v w hl => zz_above v f (join p x) w hjs hl
  clear hjs hks hvs
  go_enter Trym.func4, Trym.ntmps4
  go_wp2_with (first | (go_at_call 10; refine (H10.out).mono ?_; rintro e w' ⟨⟨r, rfl⟩, rfl⟩; cases r) | (go_at_call 7; refine ((H7 _).out).mono ?_; rintro e w' ⟨⟨r, rfl⟩, rfl⟩; cases r))
  · go_ret
    exact ⟨rfl, Below.refl _ _⟩
  · go_ret
    exact ⟨rfl, Below.refl _ _⟩
  go_loop [9] (fun i => ∃ k : Nat, k ≤ x.size ∧ i = .int .i64 k ∧ Hid (∀ q, q < k → byte x q ≠ 47)) (fun i => x.size - (intOf i).toNat)
  case atStart => exact ⟨0, Nat.zero_le _, rfl, fun q hq => by omega⟩
  case round =>
    obtain ⟨k, hk, rfl, HN⟩ := hrel
    by_cases hlt : k < x.size
    · have hby := byte_in x k hlt
      by_cases h47 : byte x k = 47
      · have g47 : ((x[k].toNat : Int) == 47) = true := by rw [← hby]; simpa using h47
        clear hby h47
        go_wp2
        go_ret
        exact ⟨rfl, Below.refl _ _⟩
      · have g47 : ((x[k].toNat : Int) == 47) = false := by rw [← hby]; simpa using h47
        have HN1 : Hid (∀ q, q < k + 1 → byte x q ≠ 47) := fun q hq => by
          by_cases hqk : q = k
          · rw [hqk]; exact h47
          · exact HN.out q (by omega)
        clear hby h47
        go_wp2
        go_round
        case rel => exact ⟨k + 1, by omega, by go_num, HN1.out⟩
        case measure => simp [intOf]; omega
    · have hkx : k = x.size := by omega
      have HX : Hid (∀ q, q < x.size → byte x q ≠ 47) := by rw [← hkx]; exact HN.out
      clear hkx HN
      go_wp2_with fail
      refine (H8.out).mono ?_
      rintro e w1 ⟨⟨v, rfl, hlook⟩, hbel⟩
      have hlp : ∀ k, (Instr.lookup 26 v (.string p) false).run Trym.prog (w1.drewN k) = .ok (.bool (f p)) (w1.drewN k) := fun k => hlook k p (by unfold maxLen; omega)
      have hld : ∀ k, (Instr.lookup 26 v (.string ⟨#[46]⟩) false).run Trym.prog (w1.drewN k) = .ok (.bool (f ⟨#[46]⟩)) (w1.drewN k) := fun k => hlook k ⟨#[46]⟩ (by decide)
      have HZp : Hid (∀ k, Calls Trym.prog 9 #[v, .string p] (w1.drewN k) fun e w' => e = .returned (.bool (above f p)) ∧ w1.drewN k = w') := fun k => zz_above v f p _ (by omega) (hlook k)
      have HZx : Hid (∀ k, Calls Trym.prog 9 #[v, .string x] (w1.drewN k) fun e w' => e = .returned (.bool (f ⟨#[46]⟩)) ∧ w' = w1.drewN k) := fun k => by
        have := zz_above v f x _ (by omega) (hlook k)
        rw [above_plain f x HX.out] at this
        exact this.mono fun e w' ⟨h1, h2⟩ => ⟨h1, h2.symm⟩
      have HJ1 : Hid (∀ k, Calls Trym.prog 9 #[v, .string (p ++ ⟨#[47]⟩ ++ x)] (w1.drewN k) fun e w' => e = .returned (.bool (above f p || f p)) ∧ w1.drewN k = w') := fun k => by
        have := HJ.out v _ (hlook k)
        rw [above_step f p x HX.out] at this
        exact this
      have HBel := hid hbel
      clear hlook HJ H7 H8 H10 hbel HX
      generalize f ⟨#[46]⟩ = fd at HZx hld
      generalize f p = fp at HJ1 hlp
      generalize above f p = ap at HJ1 HZp
      go_wp2_with fail
      go_quiet ((go_at_call 9; exact Calls.quiet_of_same (HZx.out _)))
      go_wp2_with fail
      refine (HJ1.out _).mono ?_
      rintro e w' ⟨rfl, rfl⟩
      go_wp2_with fail
      refine (HZp.out _).mono ?_
      rintro e w' ⟨rfl, rfl⟩
      cases ap
      all_goals cases fp
      all_goals
        go_wp2
        go_ret
        exact ⟨rfl, below_drewN HBel.out _⟩
end Go.Proofs.Qxb6603739aMods.Ch
