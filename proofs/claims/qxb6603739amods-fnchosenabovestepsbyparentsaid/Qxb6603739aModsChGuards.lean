/- The guards keyBytesFit and zzBytes: they return a bool and write nothing. -/
import Derived.Test.Qxb6603739aModsChMap
namespace Go.Proofs.Qxb6603739aMods.Ch
open Go.RowKit Go.Maps
set_option linter.unusedVariables false
set_option linter.unusedSimpArgs false

/-- it returns a bool -/
def aBool (e : Ending) : Prop := ∃ r : Bool, e = .returned (.bool r)

/-- The first n cells from a on are the strings ks 0, ks 1, ..; the address is known where there is one. -/
def StrRow (w : World) (a : Option Addr) (n : Nat) (ks : Nat → ByteArray) : Prop :=
  ∀ k, k < n → ∃ b off, a = some ⟨b, off, none⟩ ∧ b < w.heap.size ∧ w.cell? ⟨b, off + k, none⟩ = some (.string (ks k)) ∧ (ks k).size ≤ maxLen

set_option maxHeartbeats 1000000 in
theorem fit_any (a : Option Addr) (n cap : Nat) (ks : Nat → ByteArray) (x : Int) (w : World) (hn : (n : Int) ≤ 65536) (hks : StrRow w a n ks) :
    Calls Trym.prog 7 #[.slice a n cap, .int .i64 x] w fun e w' => aBool e ∧ w = w' := by
  go_enter Trym.func7, Trym.ntmps7
  go_wp2
  · go_ret
    exact ⟨⟨_, rfl⟩, rfl⟩
  · go_loop [5, 6] (fun t i => ∃ (k : Nat) (y : Int), k ≤ n ∧ t = .int .i64 y ∧ i = .int .i64 k) (fun _ i => n - (intOf i).toNat)
    case atStart => exact ⟨0, _, Nat.zero_le _, rfl, rfl⟩
    case round =>
      obtain ⟨k, y, hk, rfl, rfl⟩ := hrel
      by_cases hlt : k < n
      · obtain ⟨b, off, rfl, _, hck, hkz⟩ := hks k hlt
        generalize ks k = key at hck hkz
        unfold maxLen at hkz
        go_wp2
        · go_ret
          exact ⟨⟨_, rfl⟩, rfl⟩
        · go_ret
          exact ⟨⟨_, rfl⟩, rfl⟩
        · go_round
          case rel => exact ⟨k + 1, _, by omega, rfl, by go_num⟩
          case measure => simp [intOf]; omega
      · go_wp2
        go_ret
        exact ⟨⟨_, rfl⟩, rfl⟩

set_option maxHeartbeats 1000000 in
theorem bytes6_any (a : Option Addr) (n cap : Nat) (ks : Nat → ByteArray) (a2 : Option Addr) (m cap2 : Nat) (p : ByteArray) (w : World) (hn : n ≤ maxLen) (hks : StrRow w a n ks) :
    Calls Trym.prog 6 #[.slice a n cap, .slice a2 m cap2, .string p] w fun e w' => aBool e ∧ w = w' := by
  unfold maxLen at hn
  by_cases hbig : (1048576 : Int) < n
  · go_enter Trym.func6, Trym.ntmps6
    go_wp2
    go_ret
    exact ⟨⟨_, rfl⟩, rfl⟩
  go_enter Trym.func6, Trym.ntmps6
  go_wp2
  go_loop [7, 8] (fun t i => ∃ (k : Nat) (y : Int), k ≤ n ∧ t = .int .i64 y ∧ i = .int .i64 k) (fun _ i => n - (intOf i).toNat)
  case atStart => exact ⟨0, _, Nat.zero_le _, rfl, rfl⟩
  case round =>
    obtain ⟨k, y, hk, rfl, rfl⟩ := hrel
    by_cases hlt : k < n
    · obtain ⟨b, off, rfl, _, hck, hkz⟩ := hks k hlt
      generalize ks k = key at hck hkz
      unfold maxLen at hkz
      go_wp2
      · go_ret
        exact ⟨⟨_, rfl⟩, rfl⟩
      · go_ret
        exact ⟨⟨_, rfl⟩, rfl⟩
      · go_round
        case rel => exact ⟨k + 1, _, by omega, rfl, by go_num⟩
        case measure => simp [intOf]; omega
    · go_wp2
      all_goals
        go_ret
        exact ⟨⟨_, rfl⟩, rfl⟩

set_option maxHeartbeats 1000000 in
theorem bytes10_any (a : Option Addr) (n cap : Nat) (ks : Nat → ByteArray) (a2 : Option Addr) (m cap2 : Nat) (p x : ByteArray) (w : World) (hn : n ≤ maxLen) (hks : StrRow w a n ks) :
    Calls Trym.prog 10 #[.slice a n cap, .slice a2 m cap2, .string p, .string x] w fun e w' => aBool e ∧ w = w' := by
  unfold maxLen at hn
  by_cases hbig : (1048576 : Int) < n
  · go_enter Trym.func10, Trym.ntmps10
    go_wp2
    go_ret
    exact ⟨⟨_, rfl⟩, rfl⟩
  go_enter Trym.func10, Trym.ntmps10
  go_wp2
  go_loop [9, 10] (fun t i => ∃ (k : Nat) (y : Int), k ≤ n ∧ t = .int .i64 y ∧ i = .int .i64 k) (fun _ i => n - (intOf i).toNat)
  case atStart => exact ⟨0, _, Nat.zero_le _, rfl, rfl⟩
  case round =>
    obtain ⟨k, y, hk, rfl, rfl⟩ := hrel
    by_cases hlt : k < n
    · obtain ⟨b, off, rfl, _, hck, hkz⟩ := hks k hlt
      generalize ks k = key at hck hkz
      unfold maxLen at hkz
      go_wp2
      · go_ret
        exact ⟨⟨_, rfl⟩, rfl⟩
      · go_ret
        exact ⟨⟨_, rfl⟩, rfl⟩
      · go_round
        case rel => exact ⟨k + 1, _, by omega, rfl, by go_num⟩
        case measure => simp [intOf]; omega
    · go_wp2
      all_goals
        go_ret
        exact ⟨⟨_, rfl⟩, rfl⟩

set_option maxHeartbeats 1000000 in
theorem bytes11_any (a : Option Addr) (n cap : Nat) (ks : Nat → ByteArray) (a2 : Option Addr) (m cap2 : Nat) (p x : ByteArray) (w : World) (hn : n ≤ maxLen) (hks : StrRow w a n ks) :
    Calls Trym.prog 11 #[.slice a n cap, .slice a2 m cap2, .string p, .string x] w fun e w' => aBool e ∧ w = w' := by
  unfold maxLen at hn
  by_cases hbig : (1048576 : Int) < n
  · go_enter Trym.func11, Trym.ntmps11
    go_wp2
    go_ret
    exact ⟨⟨_, rfl⟩, rfl⟩
  go_enter Trym.func11, Trym.ntmps11
  go_wp2
  go_loop [9, 10] (fun t i => ∃ (k : Nat) (y : Int), k ≤ n ∧ t = .int .i64 y ∧ i = .int .i64 k) (fun _ i => n - (intOf i).toNat)
  case atStart => exact ⟨0, _, Nat.zero_le _, rfl, rfl⟩
  case round =>
    obtain ⟨k, y, hk, rfl, rfl⟩ := hrel
    by_cases hlt : k < n
    · obtain ⟨b, off, rfl, _, hck, hkz⟩ := hks k hlt
      generalize ks k = key at hck hkz
      unfold maxLen at hkz
      go_wp2
      · go_ret
        exact ⟨⟨_, rfl⟩, rfl⟩
      · go_ret
        exact ⟨⟨_, rfl⟩, rfl⟩
      · go_round
        case rel => exact ⟨k + 1, _, by omega, rfl, by go_num⟩
        case measure => simp [intOf]; omega
    · go_wp2
      all_goals
        go_ret
        exact ⟨⟨_, rfl⟩, rfl⟩
end Go.Proofs.Qxb6603739aMods.Ch
