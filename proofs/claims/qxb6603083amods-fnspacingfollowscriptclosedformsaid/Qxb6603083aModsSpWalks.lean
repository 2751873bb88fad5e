/- The contracts of ZZFollow (with follow walked into), depthStepB1, zzBytes: over the seat's translation. -/
import Derived.Test.Qxb6603083aModsProg
import Derived.Test.Qxb6603083aModsSpPlain
import Derived.WalkKit
import Derived.WalkSpells
import Derived.WalkSmall
import Derived.Deep.QuietTactic
import Derived.BigQuiet
namespace Go.Proofs.Qxb6603083aMods.Sp
open Go.RowKit
set_option linter.unusedVariables false
set_option linter.unusedSimpArgs false

set_option maxHeartbeats 400000 in
theorem follow_quote (o d : Int) (i e : Bool) (l ob : Int) (w : World) :
    Calls Trym.prog 19 #[.int .i64 o, .int .i64 d, .bool i, .bool e, .int .u8 l, .int .i64 ob, .int .u8 34] w fun r w' =>
      r = .returned (.tuple #[.int .i64 o, .int .i64 d, .bool true, .bool e, .int .u8 34, .int .i64 ob]) ∧ Below w.heap.size w w' := by
  go_enter Trym.func19, Trym.ntmps19
  go_wp2
  go_end0
  go_wp2
  go_quiet (fail)
  go_wp2
  exact bodyPost_ret (v := .tuple #[.int .i64 o, .int .i64 d, .bool true, .bool e, .int .u8 34, .int .i64 ob]) (by simp [results, Trym.results19, go_sem]) rfl ⟨rfl, below_drewN ((Below.refl _ _).alloc (Nat.le_refl _) _) _⟩

set_option maxHeartbeats 400000 in
theorem follow_open0 (c : Int) (o : Int) (i e : Bool) (l ob : Int) (hc : c = 123 ∨ c = 91) (w : World) :
    Calls Trym.prog 19 #[.int .i64 o, .int .i64 0, .bool i, .bool e, .int .u8 l, .int .i64 ob, .int .u8 c] w fun r w' =>
      r = .returned (.tuple #[.int .i64 (wrap64 (o + 1)), .int .i64 1, .bool i, .bool e, .int .u8 c, .int .i64 ob]) ∧ Below w.heap.size w w' := by
  rcases hc with rfl | rfl
  all_goals
    go_enter Trym.func19, Trym.ntmps19
    go_wp2
    go_end0
    go_wp2
    go_quiet (fail)
    go_wp2
  · exact bodyPost_ret (v := .tuple #[.int .i64 (wrap64 (o + 1)), .int .i64 1, .bool i, .bool e, .int .u8 123, .int .i64 ob]) (by simp [results, Trym.results19, go_sem]) rfl ⟨rfl, below_drewN ((Below.refl _ _).alloc (Nat.le_refl _) _) _⟩
  · exact bodyPost_ret (v := .tuple #[.int .i64 (wrap64 (o + 1)), .int .i64 1, .bool i, .bool e, .int .u8 91, .int .i64 ob]) (by simp [results, Trym.results19, go_sem]) rfl ⟨rfl, below_drewN ((Below.refl _ _).alloc (Nat.le_refl _) _) _⟩

set_option maxHeartbeats 400000 in
theorem follow_openP (c : Int) (o d : Int) (i e : Bool) (l ob : Int) (hc : c = 123 ∨ c = 91) (hd : 0 < d) (hd2 : d < 9223372036854775807) (w : World) :
    Calls Trym.prog 19 #[.int .i64 o, .int .i64 d, .bool i, .bool e, .int .u8 l, .int .i64 ob, .int .u8 c] w fun r w' =>
      r = .returned (.tuple #[.int .i64 o, .int .i64 (d + 1), .bool i, .bool e, .int .u8 c, .int .i64 ob]) ∧ Below w.heap.size w w' := by
  rcases hc with rfl | rfl
  all_goals
    go_enter Trym.func19, Trym.ntmps19
    go_wp2
    go_end0
    go_wp2
    go_quiet (fail)
    go_wp2
  · exact bodyPost_ret (v := .tuple #[.int .i64 o, .int .i64 (d + 1), .bool i, .bool e, .int .u8 123, .int .i64 ob]) (by simp [results, Trym.results19, go_sem]) rfl ⟨rfl, below_drewN ((Below.refl _ _).alloc (Nat.le_refl _) _) _⟩
  · exact bodyPost_ret (v := .tuple #[.int .i64 o, .int .i64 (d + 1), .bool i, .bool e, .int .u8 91, .int .i64 ob]) (by simp [results, Trym.results19, go_sem]) rfl ⟨rfl, below_drewN ((Below.refl _ _).alloc (Nat.le_refl _) _) _⟩

set_option maxHeartbeats 400000 in
theorem follow_close0 (c : Int) (o : Int) (i e : Bool) (l ob : Int) (hc : c = 125 ∨ c = 93) (w : World) :
    Calls Trym.prog 19 #[.int .i64 o, .int .i64 0, .bool i, .bool e, .int .u8 l, .int .i64 ob, .int .u8 c] w fun r w' =>
      r = .returned (.tuple #[.int .i64 o, .int .i64 0, .bool i, .bool e, .int .u8 c, .int .i64 ob]) ∧ Below w.heap.size w w' := by
  rcases hc with rfl | rfl
  all_goals
    go_enter Trym.func19, Trym.ntmps19
    go_wp2
    go_end0
    go_wp2
    go_quiet (fail)
    go_wp2
  · exact bodyPost_ret (v := .tuple #[.int .i64 o, .int .i64 0, .bool i, .bool e, .int .u8 125, .int .i64 ob]) (by simp [results, Trym.results19, go_sem]) rfl ⟨rfl, below_drewN ((Below.refl _ _).alloc (Nat.le_refl _) _) _⟩
  · exact bodyPost_ret (v := .tuple #[.int .i64 o, .int .i64 0, .bool i, .bool e, .int .u8 93, .int .i64 ob]) (by simp [results, Trym.results19, go_sem]) rfl ⟨rfl, below_drewN ((Below.refl _ _).alloc (Nat.le_refl _) _) _⟩

set_option maxHeartbeats 400000 in
theorem follow_closeP (c : Int) (o d : Int) (i e : Bool) (l ob : Int) (hc : c = 125 ∨ c = 93) (hd : 0 < d) (hd2 : d < 9223372036854775807) (w : World) :
    Calls Trym.prog 19 #[.int .i64 o, .int .i64 d, .bool i, .bool e, .int .u8 l, .int .i64 ob, .int .u8 c] w fun r w' =>
      r = .returned (.tuple #[.int .i64 o, .int .i64 (d - 1), .bool i, .bool e, .int .u8 c, .int .i64 ob]) ∧ Below w.heap.size w w' := by
  have h1 : ¬ d - 1 < 0 := by omega
  rcases hc with rfl | rfl
  all_goals
    go_enter Trym.func19, Trym.ntmps19
    go_wp2
    go_end0
    go_wp2
    go_quiet (fail)
    go_wp2
  · exact bodyPost_ret (v := .tuple #[.int .i64 o, .int .i64 (d - 1), .bool i, .bool e, .int .u8 125, .int .i64 ob]) (by simp [results, Trym.results19, go_sem]) rfl ⟨rfl, below_drewN ((Below.refl _ _).alloc (Nat.le_refl _) _) _⟩
  · exact bodyPost_ret (v := .tuple #[.int .i64 o, .int .i64 (d - 1), .bool i, .bool e, .int .u8 93, .int .i64 ob]) (by simp [results, Trym.results19, go_sem]) rfl ⟨rfl, below_drewN ((Below.refl _ _).alloc (Nat.le_refl _) _) _⟩

set_option maxHeartbeats 400000 in
theorem follow_other (c : Int) (o d : Int) (i e : Bool) (l ob : Int) (h1 : (c == 34) = false) (h2 : (c == 123) = false) (h3 : (c == 91) = false) (h4 : (c == 125) = false) (h5 : (c == 93) = false) (w : World) :
    Calls Trym.prog 19 #[.int .i64 o, .int .i64 d, .bool i, .bool e, .int .u8 l, .int .i64 ob, .int .u8 c] w fun r w' =>
      r = .returned (.tuple #[.int .i64 o, .int .i64 d, .bool i, .bool e, .int .u8 c, .int .i64 ob]) ∧ Below w.heap.size w w' := by
  go_enter Trym.func19, Trym.ntmps19
  go_wp2
  go_end0
  go_wp2
  go_quiet (fail)
  go_wp2
  exact bodyPost_ret (v := .tuple #[.int .i64 o, .int .i64 d, .bool i, .bool e, .int .u8 c, .int .i64 ob]) (by simp [results, Trym.results19, go_sem]) rfl ⟨rfl, below_drewN ((Below.refl _ _).alloc (Nat.le_refl _) _) _⟩

/-- ZZFollow, whatever the byte. -/
theorem follow_any (c : Int) (o d : Int) (i e : Bool) (l ob : Int) (hd : 0 ≤ d) (hd2 : d < 9223372036854775807) (w : World) :
    Calls Trym.prog 19 #[.int .i64 o, .int .i64 d, .bool i, .bool e, .int .u8 l, .int .i64 ob, .int .u8 c] w fun r w' =>
      r = .returned (.tuple #[.int .i64 (fo o d c), .int .i64 (fd d c), .bool (i || (c == 34)), .bool e, .int .u8 c, .int .i64 ob]) ∧ Below w.heap.size w w' := by
  by_cases h1 : c = 34
  · subst h1
    have e1 : fo o d 34 = o := by simp [fo, isO]
    have e2 : fd d 34 = d := by simp [fd, isO, isC]
    rw [e1, e2]
    simpa using follow_quote o d i e l ob w
  by_cases h2 : c = 123 ∨ c = 91
  · have g : isO c = true := by rcases h2 with rfl | rfl <;> rfl
    have e3 : (i || (c == 34)) = i := by simp [h1]
    rw [e3]
    by_cases h0 : d = 0
    · subst h0
      have e1 : fo o 0 c = wrap64 (o + 1) := by simp [fo, g]
      have e2 : fd 0 c = 1 := by simp [fd, g]
      rw [e1, e2]
      exact follow_open0 c o i e l ob h2 w
    · have e1 : fo o d c = o := by simp [fo, h0]
      have e2 : fd d c = d + 1 := by simp [fd, g]
      rw [e1, e2]
      exact follow_openP c o d i e l ob h2 (by omega) hd2 w
  by_cases h3 : c = 125 ∨ c = 93
  · have g : isO c = false := by rcases h3 with rfl | rfl <;> rfl
    have g' : isC c = true := by rcases h3 with rfl | rfl <;> rfl
    have e3 : (i || (c == 34)) = i := by simp [h1]
    have e1 : fo o d c = o := by simp [fo, g]
    rw [e3, e1]
    by_cases h0 : d = 0
    · subst h0
      have e2 : fd 0 c = 0 := by simp [fd, g, g']
      rw [e2]
      exact follow_close0 c o i e l ob h3 w
    · have e2 : fd d c = d - 1 := by simp [fd, g, g']; omega
      rw [e2]
      exact follow_closeP c o d i e l ob h3 (by omega) hd2 w
  have a1 : ¬ c = 123 := by omega
  have a2 : ¬ c = 91 := by omega
  have a3 : ¬ c = 125 := by omega
  have a4 : ¬ c = 93 := by omega
  have e1 : fo o d c = o := by simp [fo, isO, a1, a2]
  have e2 : fd d c = d := by simp [fd, isO, isC, a1, a2, a3, a4]
  have e3 : (i || (c == 34)) = i := by simp [h1]
  rw [e1, e2, e3]
  exact follow_other c o d i e l ob (by simpa using h1) (by simpa using a1) (by simpa using a2) (by simpa using a3) (by simpa using a4) w

set_option maxHeartbeats 400000 in
theorem step_any (c : Int) (w : World) :
    Calls Trym.prog 20 #[.int .u8 c] w fun r w' => r = .returned (.int .i64 (stp c)) ∧ w = w' := by
  by_cases h1 : c = 123
  · subst h1
    go_enter Trym.func20, Trym.ntmps20
    go_wp2
    go_ret
    exact ⟨rfl, rfl⟩
  by_cases h2 : c = 91
  · subst h2
    go_enter Trym.func20, Trym.ntmps20
    go_wp2
    go_ret
    exact ⟨rfl, rfl⟩
  by_cases h3 : c = 125
  · subst h3
    go_enter Trym.func20, Trym.ntmps20
    go_wp2
    go_ret
    exact ⟨rfl, rfl⟩
  by_cases h4 : c = 93
  · subst h4
    go_enter Trym.func20, Trym.ntmps20
    go_wp2
    go_ret
    exact ⟨rfl, rfl⟩
  have e : stp c = 0 := by simp [stp, isO, isC, h1, h2, h3, h4]
  rw [e]
  have g1 : (c == 123) = false := by simpa using h1
  have g2 : (c == 91) = false := by simpa using h2
  have g3 : (c == 125) = false := by simpa using h3
  have g4 : (c == 93) = false := by simpa using h4
  clear e h1 h2 h3 h4
  go_enter Trym.func20, Trym.ntmps20
  go_wp2
  go_ret
  exact ⟨rfl, rfl⟩

set_option maxHeartbeats 400000 in
theorem bytes_no (o d : Int) (i e : Bool) (l ob : Int) (a : Option Addr) (n cap : Nat) (h : (1048576 : Int) < n) (w : World) :
    Calls Trym.prog 18 #[.int .i64 o, .int .i64 d, .bool i, .bool e, .int .u8 l, .int .i64 ob, .slice a n cap] w fun r w' =>
      r = .returned (.bool false) ∧ w = w' := by
  go_enter Trym.func18, Trym.ntmps18
  go_wp2
  go_ret
  exact ⟨rfl, rfl⟩
set_option maxHeartbeats 400000 in
theorem bytes_yes (o d : Int) (i e : Bool) (l ob : Int) (a : Option Addr) (n cap : Nat) (h : (n : Int) ≤ 1048576) (w : World) :
    Calls Trym.prog 18 #[.int .i64 o, .int .i64 d, .bool i, .bool e, .int .u8 l, .int .i64 ob, .slice a n cap] w fun r w' =>
      r = .returned (.bool true) ∧ w = w' := by
  go_enter Trym.func18, Trym.ntmps18
  go_wp2
  go_ret
  exact ⟨rfl, rfl⟩
end Go.Proofs.Qxb6603083aMods.Sp
