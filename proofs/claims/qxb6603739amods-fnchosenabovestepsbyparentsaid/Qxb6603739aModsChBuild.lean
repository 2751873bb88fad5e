/- The contracts of buildChosen, chosenAbove, ZZchosenAbove: over the seat's translation. -/
import Derived.Test.Qxb6603739aModsChMap
namespace Go.Proofs.Qxb6603739aMods.Ch
open Go.RowKit Go.Maps
set_option linter.unusedVariables false
set_option linter.unusedSimpArgs false

set_option maxHeartbeats 400000 in
theorem build_nil (vv : Value) (w : World) :
    Calls Trym.prog 8 #[.slice none 0 0, vv] w fun e w' => e = .returned (.map none) ∧ w = w' := by
  have hq := fun wx => Lib.run_eql_slice_nil (P := Trym.prog) wx 22 9 none 0 0 0 0 Trym.underlying22
  go_enter Trym.func8, Trym.ntmps8
  go_wp2
  go_ret
  exact ⟨rfl, rfl⟩

set_option maxHeartbeats 1000000 in
theorem build_row (b off n cap : Nat) (ya : Option Addr) (m cap2 : Nat) (ks : Nat → ByteArray) (vs : Nat → Bool) (w : World) (hp : 0 < n) (hn : (n : Int) ≤ 65536) (hm : (m : Int) ≤ 65536)
    (hb : b < w.heap.size) (hks : ∀ k, k < n → w.cell? ⟨b, off + k, none⟩ = some (.string (ks k))) (hsz : ∀ k, k < n → (ks k).size ≤ maxLen)
    (hvs : ∀ k, k < m → ∃ b2 off2, ya = some ⟨b2, off2, none⟩ ∧ b2 < w.heap.size ∧ w.cell? ⟨b2, off2 + k, none⟩ = some (.bool (vs k))) (hvf : ∀ k, m ≤ k → vs k = false) :
    Calls Trym.prog 8 #[.slice (some ⟨b, off, none⟩) n cap, .slice ya m cap2] w fun e w' => e = .returned (.map (some w.heap.size)) ∧ Tab w' w.heap.size n (ch ks vs n) ∧ Below w.heap.size w w' := by
  have hq := fun wx => Lib.run_eql_slice_nil (P := Trym.prog) wx 22 9 (some ⟨b, off, none⟩) n cap 0 0 Trym.underlying22
  have hmm := fun wx => run_makeMap_hint n wx
  have HK := hid hks
  have HS := hid hsz
  have HV := hid hvs
  have HF := hid hvf
  clear hks hsz hvs hvf
  go_enter Trym.func8, Trym.ntmps8
  go_wp2
  clear hq hmm
  go_loopw [6] (fun v wr => ∃ k : Nat, k ≤ n ∧ v = .int .i64 k ∧ Hid (Tab wr w.heap.size k (ch ks vs k)) ∧ Below w.heap.size w wr) (fun v _ => n - (intOf v).toNat)
  case atStart => exact ⟨0, Nat.zero_le _, rfl, tab_made w, (Below.refl _ _).alloc (Nat.le_refl _) _⟩
  case round =>
    obtain ⟨k, hk, rfl, HT, hbel⟩ := hrel
    by_cases hlt : k < n
    · have hck : wr.cell? ⟨b, off + k, none⟩ = some (.string (ks k)) := by rw [hbel.cell (by exact hb)]; exact HK.out k hlt
      have hkz := HS.out k hlt
      generalize hkd : ks k = key at hck hkz
      have HKD := hid hkd
      clear hkd
      have hstep : ∀ y, y = vs k → (fun s => if s = key then y else ch ks vs k s) = ch ks vs (k + 1) := fun y hy => by
        subst hy
        funext s
        simp only [ch, HKD.out]
      have ST := hid hstep
      clear hstep
      by_cases hkm : k < m
      · obtain ⟨b2, off2, hya, hb2, hcv⟩ := HV.out k hkm
        subst hya
        have hcv' : wr.cell? ⟨b2, off2 + k, none⟩ = some (.bool (vs k)) := by rw [hbel.cell (by exact hb2)]; exact hcv
        clear hcv
        go_wp2_with (at_mapUpdate; refine wpList_put _ rfl _ _ _ rfl w.heap.size k _ rfl HT.out (by unfold maxLen; omega) key (vs k) rfl rfl hkz ?_; intro w1 htab hgrow)
        go_roundw
        case rel => exact ⟨k + 1, by omega, by go_num, by rw [ST.out _ rfl] at htab; exact htab, hbel.grown hgrow hbel.size (fun j hj => by cases hj; exact Nat.le_refl _)⟩
        case measure => simp [intOf]; omega
      · have hvk : false = vs k := (HF.out k (by omega)).symm
        have HVK := hid hvk
        clear hvk
        go_wp2_with (at_mapUpdate; refine wpList_put _ rfl _ _ _ rfl w.heap.size k _ rfl HT.out (by unfold maxLen; omega) key false rfl rfl hkz ?_; intro w1 htab hgrow)
        go_roundw
        case rel => exact ⟨k + 1, by omega, by go_num, by rw [ST.out _ HVK.out] at htab; exact htab, hbel.grown hgrow hbel.size (fun j hj => by cases hj; exact Nat.le_refl _)⟩
        case measure => simp [intOf]; omega
    · have hkn : k = n := by omega
      subst hkn
      go_wp2
      go_ret
      exact ⟨rfl, HT.out, hbel⟩

set_option maxHeartbeats 400000 in
theorem build_empty (x : Addr) (cap : Nat) (vv : Value) (w : World) :
    Calls Trym.prog 8 #[.slice (some x) 0 cap, vv] w fun e w' => e = .returned (.map (some w.heap.size)) ∧ Tab w' w.heap.size 0 (fun _ => false) ∧ Below w.heap.size w w' := by
  have hq := fun wx => Lib.run_eql_slice_nil (P := Trym.prog) wx 22 9 (some x) 0 cap 0 0 Trym.underlying22
  have hmm := fun wx => run_makeMap_hint 0 wx
  rw [show ((0 : Nat) : Int) = 0 from rfl] at hmm
  go_enter Trym.func8, Trym.ntmps8
  go_wp2
  refine wp_loop_rounds 1 ?_
  rw [rounds_succ]
  go_wp2
  go_ret
  exact ⟨rfl, tab_made w, (Below.refl _ _).alloc (Nat.le_refl _) _⟩

set_option maxHeartbeats 1000000 in
theorem above_any (v : Value) (f : ByteArray → Bool) (p : ByteArray) (w : World) (hp : (p.size : Int) ≤ 1048576) (hl : Look w v f) :
    Calls Trym.prog 12 #[v, .string p] w fun e w' => e = .returned (.bool (above f p)) ∧ w = w' := by
  have hdot := hl ⟨#[46]⟩ (by decide)
  have HL := hid hl
  clear hl
  cases hd : f ⟨#[46]⟩
  · rw [hd] at hdot
    have HA : Hid (above f p = upTo f p p.size) := by show _ = _; unfold above; rw [show f dot = false from hd]; rfl
    clear hd
    go_enter Trym.func12, Trym.ntmps12
    go_wp2
    clear hdot
    go_loop [10] (fun c => ∃ k : Nat, k ≤ p.size ∧ c = .int .i64 k ∧ Hid (upTo f p k = false)) (fun c => p.size - (intOf c).toNat)
    case atStart => exact ⟨0, Nat.zero_le _, rfl, rfl⟩
    case round =>
      obtain ⟨k, hk, rfl, HU⟩ := hrel
      by_cases hlt : k < p.size
      · have hlk := HL.out (p.extract 0 k) (by rw [ByteArray.size_extract]; unfold maxLen; omega)
        have HUS : Hid (upTo f p (k + 1) = (byte p k == 47 && f (p.extract 0 k))) := by show _ = _; simp only [upTo]; rw [HU.out]; rfl
        have hby := byte_in p k hlt
        by_cases h47 : byte p k = 47
        · have g47 : ((p[k].toNat : Int) == 47) = true := by rw [← hby]; simpa using h47
          cases hf : f (p.extract 0 k)
          · rw [hf] at hlk
            have HN : Hid (upTo f p (k + 1) = false) := by show _ = _; rw [HUS.out, hf]; simp
            clear HUS hby h47 hf
            go_wp2
            go_round
            case rel => exact ⟨k + 1, by omega, by go_num, HN.out⟩
            case measure => simp [intOf]; omega
          · rw [hf] at hlk
            have HN : Hid (above f p = true) := by
              show _ = _
              rw [HA.out, upTo_iff]
              exact ⟨k, hlt, h47, hf⟩
            clear HUS hby h47 hf
            go_wp2
            go_ret
            exact ⟨by rw [HN.out]; rfl, rfl⟩
        · have g47 : ((p[k].toNat : Int) == 47) = false := by rw [← hby]; simpa using h47
          have HN : Hid (upTo f p (k + 1) = false) := by show _ = _; rw [HUS.out]; simp [h47]
          clear HUS hby h47 hlk
          go_wp2
          go_round
          case rel => exact ⟨k + 1, by omega, by go_num, HN.out⟩
          case measure => simp [intOf]; omega
      · have hkn : k = p.size := by omega
        have HN : Hid (above f p = false) := by show _ = _; rw [HA.out, ← hkn]; exact HU.out
        clear hkn
        go_wp2
        go_ret
        exact ⟨by rw [HN.out]; rfl, rfl⟩
  · rw [hd] at hdot
    have HA : Hid (above f p = true) := by show _ = _; unfold above; rw [show f dot = true from hd]; rfl
    clear hd
    go_enter Trym.func12, Trym.ntmps12
    go_wp2
    go_ret
    exact ⟨by rw [HA.out]; rfl, rfl⟩

set_option maxHeartbeats 400000 in
theorem zz_above (v : Value) (f : ByteArray → Bool) (p : ByteArray) (w : World) (hp : (p.size : Int) ≤ 1048576) (hl : Look w v f) :
    Calls Trym.prog 9 #[v, .string p] w fun e w' => e = .returned (.bool (above f p)) ∧ w = w' := by
  have HK := hid (above_any v f p w hp hl)
  clear hl
  go_enter Trym.func9, Trym.ntmps9
  go_wp2_with (go_at_call 12; refine (HK.out).mono ?_; rintro e w' ⟨rfl, rfl⟩)
  go_ret
  exact ⟨rfl, rfl⟩
end Go.Proofs.Qxb6603739aMods.Ch
