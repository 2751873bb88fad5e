/- The walk of FnChosenAboveAgreesWithKeyScan. -/
import Derived.Test.Qxb6603739aModsChLaws
import Derived.Lib.Strings
namespace Go.Proofs.Qxb6603739aMods.Ch
open Go.RowKit Go.Maps
set_option linter.unusedVariables false
set_option linter.unusedSimpArgs false

theorem toList_inj {s k : ByteArray} (h : s.toList = k.toList) : s = k := by
  rw [Lib.toList_data, Lib.toList_data] at h
  exact ByteArray.ext (Array.toList_inj.1 h)
theorem toList_ne {s k : ByteArray} (h : s ≠ k) : (s.toList == k.toList) = false := by
  rw [beq_eq_false_iff_ne]
  exact fun e => h (toList_inj e)
theorem dot_ne {k : ByteArray} (h : k ≠ ⟨#[46]⟩) : (k.toList == [46]) = false := by
  have e : (⟨#[46]⟩ : ByteArray).toList = [46] := by rw [Lib.toList_data]
  rw [← e]
  exact toList_ne h

set_option maxRecDepth 20000 in
set_option maxHeartbeats 2000000 in
theorem scan (a : Option Addr) (n cap : Nat) (ks : Nat → ByteArray) (a2 : Option Addr) (m cap2 : Nat) (vs : Nat → Bool) (p : ByteArray) (w : World)
    (hnm : n ≤ maxLen) (hnil : a = none → n = 0 ∧ cap = 0) (hks : StrRow w a n ks) (hvs : BoolRow w a2 m vs) :
    Calls Trym.prog 3 #[.slice a n cap, .slice a2 m cap2, .string p] w fun e w' => e = .returned (.bool true) ∧ Below w.heap.size w w' := by
  have H6 := hid (bytes6_any a n cap ks a2 m cap2 p w hnm hks)
  by_cases h1 : (65536 : Int) < n
  · go_enter Trym.func3, Trym.ntmps3
    go_wp2_with (go_at_call 6; refine (H6.out).mono ?_; rintro e w' ⟨⟨r, rfl⟩, rfl⟩; cases r)
    all_goals
      go_ret
      exact ⟨rfl, Below.refl _ _⟩
  by_cases h2 : (65536 : Int) < m
  · go_enter Trym.func3, Trym.ntmps3
    go_wp2_with (go_at_call 6; refine (H6.out).mono ?_; rintro e w' ⟨⟨r, rfl⟩, rfl⟩; cases r)
    all_goals
      go_ret
      exact ⟨rfl, Below.refl _ _⟩
  by_cases h3 : (4096 : Int) < p.size
  · go_enter Trym.func3, Trym.ntmps3
    go_wp2_with (go_at_call 6; refine (H6.out).mono ?_; rintro e w' ⟨⟨r, rfl⟩, rfl⟩; cases r)
    all_goals
      go_ret
      exact ⟨rfl, Below.refl _ _⟩
  have H7 := fun y => hid (fit_any a n cap ks y w (by omega) hks)
  have H8 := hid (build_any a n cap ks a2 m cap2 vs w (by omega) (by omega) hnil hks hvs)
  have HS := hid (above_scan ks vs n p)
  generalize ch ks vs n = f at H8 HS
  clear hvs
  go_enter Trym.func3, Trym.ntmps3
  go_wp2_with (first | (go_at_call 6; refine (H6.out).mono ?_; rintro e w' ⟨⟨r, rfl⟩, rfl⟩; cases r) | (go_at_call 7; refine ((H7 _).out).mono ?_; rintro e w' ⟨⟨r, rfl⟩, rfl⟩; cases r))
  · go_ret
    exact ⟨rfl, Below.refl _ _⟩
  · go_ret
    exact ⟨rfl, Below.refl _ _⟩
  refine (H8.out).mono ?_
  rintro e w1 ⟨⟨v, rfl, hlook⟩, hbel⟩
  have HZ := hid (zz_above v f p w1 (by omega) hlook)
  have HL := hid hlook
  have HBel := hid hbel
  have HK : Hid (∀ k, k < n → ∃ b off, a = some ⟨b, off, none⟩ ∧ w1.cell? ⟨b, off + k, none⟩ = some (.string (ks k)) ∧ (ks k).size ≤ maxLen) := fun k hk => by
    obtain ⟨b, off, e1, e2, e3, e4⟩ := hks k hk
    exact ⟨b, off, e1, by rw [hbel.cell (by exact e2)]; exact e3, e4⟩
  clear hlook hbel H6 H7 H8 hks
  go_wp2_with (go_at_call 9; refine (HZ.out).mono ?_; rintro e w' ⟨rfl, rfl⟩)
  clear HZ
  go_loop [9, 10] (fun vw vi => ∃ k : Nat, k ≤ n ∧ vw = .bool false ∧ vi = .int .i64 k ∧ Hid (∀ q, q < k → ¬ hit f p (ks q))) (fun _ i => n - (intOf i).toNat)
  case atStart => exact ⟨0, Nat.zero_le _, rfl, rfl, fun q hq => by omega⟩
  case round =>
    obtain ⟨k, hk, rfl, rfl, HN⟩ := hrel
    by_cases hlt : k < n
    · obtain ⟨b, off, rfl, hck, hkz⟩ := HK.out k hlt
      have hlk := HL.out (ks k) hkz
      have HYes : Hid (hit f p (ks k) → above f p = true) := fun h => HS.out.2 ⟨k, hlt, h⟩
      have HNo : Hid (¬ hit f p (ks k) → ∀ q, q < k + 1 → ¬ hit f p (ks q)) := fun h q hq => by
        by_cases hqk : q = k
        · rw [hqk]; exact h
        · exact HN.out q (by omega)
      clear HN
      generalize ks k = key at hck hkz hlk HYes HNo
      cases hf : f key
      · rw [hf] at hlk
        have HR : Hid (¬ hit f p key) := fun h => by rw [h.1] at hf; cases hf
        clear hf
        go_wp2
        go_round
        case rel => exact ⟨k + 1, by omega, rfl, by go_num, HNo.out HR.out⟩
        case measure => simp [intOf]; omega
      · rw [hf] at hlk
        by_cases hd : key = ⟨#[46]⟩
        · subst hd
          have hA : above f p = true := HYes.out ⟨hf, .inl rfl⟩
          clear hf HYes HNo
          go_wp2
          go_ret
          exact ⟨rfl, HBel.out⟩
        · have gd := dot_ne hd
          have HD := hid hd
          clear hd
          by_cases hsz : key.size < p.size
          · have hsz' : (key.size : Int) < p.size := by omega
            have hby := byte_in p key.size hsz
            by_cases he : p.extract 0 key.size = key
            · have ge : ((p.extract 0 key.size).toList == key.toList) = true := by rw [he]; simp
              by_cases h47 : byte p key.size = 47
              · have g47 : ((p[key.size].toNat : Int) == 47) = true := by rw [← hby]; simpa using h47
                have hA : above f p = true := HYes.out ⟨hf, .inr ⟨hsz, he, h47⟩⟩
                clear hf HYes HNo hby h47 he
                go_wp2
                go_ret
                exact ⟨rfl, HBel.out⟩
              · have g47 : ((p[key.size].toNat : Int) == 47) = false := by rw [← hby]; simpa using h47
                have HR : Hid (¬ hit f p key) := fun h => by
                  rcases h.2 with h | h
                  · exact HD.out h
                  · exact h47 h.2.2
                clear hf HYes hby h47 he
                go_wp2
                go_round
                case rel => exact ⟨k + 1, by omega, rfl, by go_num, HNo.out HR.out⟩
                case measure => simp [intOf]; omega
            · have ge : ((p.extract 0 key.size).toList == key.toList) = false := toList_ne he
              have HR : Hid (¬ hit f p key) := fun h => by
                rcases h.2 with h | h
                · exact HD.out h
                · exact he h.2.1
              clear hf HYes hby he
              go_wp2
              go_round
              case rel => exact ⟨k + 1, by omega, rfl, by go_num, HNo.out HR.out⟩
              case measure => simp [intOf]; omega
          · have hsz' : ¬ (key.size : Int) < p.size := by omega
            have HR : Hid (¬ hit f p key) := fun h => by
              rcases h.2 with h | h
              · exact HD.out h
              · exact hsz h.1
            clear hf HYes
            go_wp2
            go_round
            case rel => exact ⟨k + 1, by omega, rfl, by go_num, HNo.out HR.out⟩
            case measure => simp [intOf]; omega
    · have hA : above f p = false := by
        rw [Bool.eq_false_iff]
        intro h
        obtain ⟨q, hq, hh⟩ := HS.out.1 h
        exact HN.out q (by omega) hh
      clear HN HS
      go_wp2
      go_ret
      exact ⟨rfl, HBel.out⟩
end Go.Proofs.Qxb6603739aMods.Ch
