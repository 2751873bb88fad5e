/- buildChosen at every input; the walk of FnChosenAboveInheritedBelow. -/
import Derived.Test.Qxb6603739aModsChBuild
import Derived.Test.Qxb6603739aModsChGuards
namespace Go.Proofs.Qxb6603739aMods.Ch
open Go.RowKit Go.Maps
set_option linter.unusedVariables false
set_option linter.unusedSimpArgs false

/-- The first m cells from a on are the bools vs 0, vs 1, ..; behind them vs is false. -/
def BoolRow (w : World) (a : Option Addr) (m : Nat) (vs : Nat → Bool) : Prop :=
  (∀ k, k < m → ∃ b off, a = some ⟨b, off, none⟩ ∧ b < w.heap.size ∧ w.cell? ⟨b, off + k, none⟩ = some (.bool (vs k))) ∧ ∀ k, m ≤ k → vs k = false

/-- A map value is handed back that answers f. -/
def madeTab (f : ByteArray → Bool) (e : Ending) (w' : World) : Prop := ∃ v, e = .returned v ∧ Look w' v f

theorem build_any (a : Option Addr) (n cap : Nat) (ks : Nat → ByteArray) (a2 : Option Addr) (m cap2 : Nat) (vs : Nat → Bool) (w : World) (hn : (n : Int) ≤ 65536) (hm : (m : Int) ≤ 65536)
    (hnil : a = none → n = 0 ∧ cap = 0) (hks : StrRow w a n ks) (hvs : BoolRow w a2 m vs) :
    Calls Trym.prog 8 #[.slice a n cap, .slice a2 m cap2] w fun e w' => madeTab (ch ks vs n) e w' ∧ Below w.heap.size w w' := by
  cases a with
  | none =>
    obtain ⟨rfl, rfl⟩ := hnil rfl
    refine (build_nil (.slice a2 m cap2) w).mono ?_
    rintro e w' ⟨rfl, rfl⟩
    exact ⟨⟨_, rfl, look_nil w⟩, Below.refl _ _⟩
  | some x =>
    by_cases h0 : n = 0
    · subst h0
      refine (build_empty x cap (.slice a2 m cap2) w).mono ?_
      rintro e w' ⟨rfl, htab, hb⟩
      exact ⟨⟨_, rfl, htab.look⟩, hb⟩
    · obtain ⟨b, off, hx, hb, _⟩ := hks 0 (by omega)
      cases hx
      refine (build_row b off n cap a2 m cap2 ks vs w (by omega) hn hm hb (fun k hk => ?_) (fun k hk => ?_) hvs.1 hvs.2).mono ?_
      · obtain ⟨b', off', h1, h2, h3, h4⟩ := hks k hk
        cases h1
        exact h3
      · obtain ⟨b', off', h1, h2, h3, h4⟩ := hks k hk
        exact h4
      · rintro e w' ⟨rfl, htab, hb⟩
        exact ⟨⟨_, rfl, htab.look⟩, hb⟩

set_option maxRecDepth 20000 in
set_option maxHeartbeats 1000000 in
theorem inherited (a : Option Addr) (n cap : Nat) (ks : Nat → ByteArray) (a2 : Option Addr) (m cap2 : Nat) (vs : Nat → Bool) (p x : ByteArray) (w : World)
    (hnm : n ≤ maxLen) (hnil : a = none → n = 0 ∧ cap = 0) (hks : StrRow w a n ks) (hvs : BoolRow w a2 m vs) :
    Calls Trym.prog 5 #[.slice a n cap, .slice a2 m cap2, .string p, .string x] w fun e w' => e = .returned (.bool true) ∧ Below w.heap.size w w' := by
  have H11 := hid (bytes11_any a n cap ks a2 m cap2 p x w hnm hks)
  by_cases h1 : (65536 : Int) < n
  · go_enter Trym.func5, Trym.ntmps5
    go_wp2_with (go_at_call 11; refine (H11.out).mono ?_; rintro e w' ⟨⟨r, rfl⟩, rfl⟩; cases r)
    all_goals
      go_ret
      exact ⟨rfl, Below.refl _ _⟩
  by_cases h2 : (65536 : Int) < m
  · go_enter Trym.func5, Trym.ntmps5
    go_wp2_with (go_at_call 11; refine (H11.out).mono ?_; rintro e w' ⟨⟨r, rfl⟩, rfl⟩; cases r)
    all_goals
      go_ret
      exact ⟨rfl, Below.refl _ _⟩
  by_cases h3 : (4096 : Int) < p.size
  · go_enter Trym.func5, Trym.ntmps5
    go_wp2_with (go_at_call 11; refine (H11.out).mono ?_; rintro e w' ⟨⟨r, rfl⟩, rfl⟩; cases r)
    all_goals
      go_ret
      exact ⟨rfl, Below.refl _ _⟩
  by_cases h4 : (4096 : Int) < x.size
  · go_enter Trym.func5, Trym.ntmps5
    go_wp2_with (go_at_call 11; refine (H11.out).mono ?_; rintro e w' ⟨⟨r, rfl⟩, rfl⟩; cases r)
    all_goals
      go_ret
      exact ⟨rfl, Below.refl _ _⟩
  have H7 := fun y => hid (fit_any a n cap ks y w (by omega) hks)
  have H8 := hid (build_any a n cap ks a2 m cap2 vs w (by omega) (by omega) hnil hks hvs)
  generalize ch ks vs n = f at H8
  have HB : Hid (f p = true ∨ above f p = true → above f (join p x) = true) := above_below f p x
  have hjs : ((join p x).size : Int) ≤ 1048576 := by rw [join_size]; omega
  have HJ : Hid (∀ v w, Look w v f → Calls Trym.prog 9 #[v, .string (p ++ ⟨#[47]⟩ ++ x)] w fun e w' => e = .returned (.bool (above f (join p x))) ∧ w = w') := fun v w hl => zz_above v f (join p x) w hjs hl
  clear hjs hks hvs
  go_enter Trym.func5, Trym.ntmps5
  go_wp2_with (first | (go_at_call 11; refine (H11.out).mono ?_; rintro e w' ⟨⟨r, rfl⟩, rfl⟩; cases r) | (go_at_call 7; refine ((H7 _).out).mono ?_; rintro e w' ⟨⟨r, rfl⟩, rfl⟩; cases r))
  · go_ret
    exact ⟨rfl, Below.refl _ _⟩
  · go_ret
    exact ⟨rfl, Below.refl _ _⟩
  refine (H8.out).mono ?_
  rintro e w1 ⟨⟨v, rfl, hlook⟩, hbel⟩
  have hlp := hlook p (by unfold maxLen; omega)
  have HZ := hid (zz_above v f p w1 (by omega) hlook)
  have HJ1 := hid (HJ.out v w1 hlook)
  have HBel := hid hbel
  clear hlook HJ H7 H8 H11 hbel
  cases hf : f p
  · rw [hf] at hlp
    cases ha : above f p
    · have HZ' := HZ.out
      rw [ha] at HZ'
      replace HZ' := hid HZ'
      clear HZ HB HJ1 ha hf
      go_wp2_with (go_at_call 9; refine (HZ'.out).mono ?_; rintro e w' ⟨rfl, rfl⟩)
      go_ret
      exact ⟨rfl, HBel.out⟩
    · have HZ' := HZ.out
      have HJ' := HJ1.out
      rw [ha] at HZ'
      rw [HB.out (.inr ha)] at HJ'
      replace HZ' := hid HZ'
      replace HJ' := hid HJ'
      clear HZ HB HJ1 ha hf
      go_wp2_with fail
      refine (HZ'.out).mono ?_
      rintro e w' ⟨rfl, rfl⟩
      go_wp2_with fail
      refine (HJ'.out).mono ?_
      rintro e w' ⟨rfl, rfl⟩
      go_wp2
      go_ret
      exact ⟨rfl, HBel.out⟩
  · rw [hf] at hlp
    have HJ' := HJ1.out
    rw [HB.out (.inl hf)] at HJ'
    replace HJ' := hid HJ'
    clear HZ HB HJ1 hf
    go_wp2_with fail
    refine (HJ'.out).mono ?_
    rintro e w' ⟨rfl, rfl⟩
    go_wp2
    go_ret
    exact ⟨rfl, HBel.out⟩
end Go.Proofs.Qxb6603739aMods.Ch
