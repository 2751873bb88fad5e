/- The plain mathematics of FnSpacingFollowScriptClosedForm: no Go in sight. -/
import Derived.WalkKit
namespace Go.Proofs.Qxb6603083aMods.Sp
open Go.RowKit (wrap64)
set_option linter.unusedSimpArgs false

def isO (c : Int) : Bool := c == 123 || c == 91
def isC (c : Int) : Bool := c == 125 || c == 93
/-- what one byte does to 'objects', 'depth' -/
def fo (o d c : Int) : Int := if isO c = true ∧ d = 0 then wrap64 (o + 1) else o
def fd (d c : Int) : Int := if isO c = true then d + 1 else if isC c = true then (if d ≤ 0 then 0 else d - 1) else d
/-- depthStepB1 -/
def stp (c : Int) : Int := if isO c = true then 1 else if isC c = true then -1 else 0
/-- the closed form's four counts over the first t bytes -/
def S (z : List Int) : Nat → Int
  | 0 => 0
  | t + 1 => S z t + stp (z.getD t 0)
def L (z : List Int) : Nat → Int
  | 0 => 0
  | t + 1 => if S z (t + 1) < L z t then S z (t + 1) else L z t
def D (dep : Int) (z : List Int) (t : Nat) : Int := if dep + S z t < S z t - L z t then S z t - L z t else dep + S z t
def C (dep : Int) (z : List Int) : Nat → Int
  | 0 => 0
  | t + 1 => if isO (z.getD t 0) = true ∧ D dep z t = 0 then C dep z t + 1 else C dep z t
def Q (z : List Int) : Nat → Bool
  | 0 => false
  | t + 1 => Q z t || (z.getD t 0 == 34)
def last (l : Int) (z : List Int) : Nat → Int
  | 0 => l
  | t + 1 => z.getD t 0

theorem stp_bd (c : Int) : -1 ≤ stp c ∧ stp c ≤ 1 := by unfold stp; split <;> (try split) <;> omega
theorem S_bd (z : List Int) (t : Nat) : -(t : Int) ≤ S z t ∧ S z t ≤ t := by
  induction t with
  | zero => simp [S]
  | succ t ih => have := stp_bd (z.getD t 0); simp only [S]; omega
theorem L_bd (z : List Int) (t : Nat) : -(t : Int) ≤ L z t ∧ L z t ≤ 0 ∧ L z t ≤ S z t ∧ S z t - L z t ≤ t := by
  induction t with
  | zero => simp [S, L]
  | succ t ih =>
    have h1 := stp_bd (z.getD t 0)
    have h2 := S_bd z (t + 1)
    have h3 : S z (t + 1) = S z t + stp (z.getD t 0) := rfl
    simp only [L]
    split <;> omega
theorem C_bd (dep : Int) (z : List Int) (t : Nat) : 0 ≤ C dep z t ∧ C dep z t ≤ t := by
  induction t with
  | zero => simp [C]
  | succ t ih => simp only [C]; split <;> omega
theorem D_bd (dep : Int) (h : 0 ≤ dep) (z : List Int) (t : Nat) : 0 ≤ D dep z t ∧ D dep z t ≤ dep + t := by
  have h1 := S_bd z t
  have h2 := L_bd z t
  unfold D; split <;> omega
theorem fd_D (dep : Int) (z : List Int) (t : Nat) : fd (D dep z t) (z.getD t 0) = D dep z (t + 1) := by
  have h2 := L_bd z t
  have h3 : S z (t + 1) = S z t + stp (z.getD t 0) := rfl
  have h4 : L z (t + 1) = if S z (t + 1) < L z t then S z (t + 1) else L z t := rfl
  unfold D fd
  rw [h4, h3]
  unfold stp
  by_cases ho : isO (z.getD t 0) = true
  · simp only [ho, if_true]; repeat' split
    all_goals omega
  · by_cases hc : isC (z.getD t 0) = true
    · simp only [ho, hc, if_true, if_false]; repeat' split
      all_goals (first | omega | simp_all)
    · simp only [ho, hc, if_false]; repeat' split
      all_goals (first | omega | simp_all)
theorem fo_C (obs dep : Int) (z : List Int) (t : Nat) : fo (wrap64 (obs + C dep z t)) (D dep z t) (z.getD t 0) = wrap64 (obs + C dep z (t + 1)) := by
  unfold fo
  simp only [C]
  split
  · unfold wrap64; omega
  · rfl
end Go.Proofs.Qxb6603083aMods.Sp
