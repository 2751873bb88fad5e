/- The plain mathematics of block headers. No Go in sight. -/
import Derived.Test.Qxb6603083aModsTxWalks
namespace Go.Proofs.Qxb6603083aMods.Tx
set_option linter.unusedVariables false
set_option linter.unusedSimpArgs false

def isC (c : Int) : Bool := c == 43 || c == 45
def isD (c : Int) : Bool := decide (49 ≤ c) && decide (c ≤ 57)
theorem isC_iff (c : Int) : isC c = true ↔ c = 43 ∨ c = 45 := by simp [isC]
theorem isD_iff (c : Int) : isD c = true ↔ 49 ≤ c ∧ c ≤ 57 := by simp [isD]
theorem isC_not (c : Int) : isC c = false ↔ ¬ c = 43 ∧ ¬ c = 45 := by simp [isC]
theorem isD_not (c : Int) : isD c = false ↔ ¬ (49 ≤ c ∧ c ≤ 57) := by simp [isD]
theorem C_notD {c : Int} (h : isC c = true) : isD c = false := by rw [isC_iff] at h; rw [isD_not]; omega
theorem D_notC {c : Int} (h : isD c = true) : isC c = false := by rw [isD_iff] at h; rw [isC_not]; omega

/-- what stands behind the shape, at k ≤ n -/
def tl (t : Nat → Int) (n k : Nat) : Bool := k == n || (t k == 32 && (skip t n (k + 1) == n || t (skip t n (k + 1)) == 35))
theorem skip_succ (t : Nat → Int) (n k : Nat) (hk : k < n) (h : t k = 32) : skip t n k = skip t n (k + 1) := by
  obtain ⟨g1, g2, g3, g4⟩ := skip_spec t n (k + 1) (by omega)
  refine (skip_eq t n k _ (by omega) g2 (fun q h1 h2 => ?_) g4).symm
  by_cases hq : q = k
  · rw [hq]; exact h
  · exact g3 q (by omega) h2
theorem rest_tl (t : Nat → Int) (n k : Nat) (hk : k < n) : (t k == 32 && rest t n k) = tl t n k := by
  have h0 : (k == n) = false := by simp; omega
  unfold tl rest
  rw [h0]
  by_cases h : t k = 32
  · obtain ⟨g1, g2, g3, g4⟩ := skip_spec t n (k + 1) (by omega)
    rw [skip_succ t n k hk h, decide_eq_true (by omega)]
    simp
  · have : (t k == 32) = false := by simpa using h
    simp [this]
theorem tl_end (t : Nat → Int) (n : Nat) : tl t n n = true := by simp [tl]

/-- blockHeader's loop -/
def bhF (t : Nat → Int) (n : Nat) : Nat → Bool → Int → Nat → Int × Bool
  | 0, _, ind, _ => (ind, true)
  | f + 1, ch, ind, i =>
    if isC (t i) = true ∧ ch = false then bhF t n f true ind (i + 1)
    else if isD (t i) = true ∧ ind = 0 then bhF t n f ch (t i - 48) (i + 1)
    else (ind, t i == 32 && rest t n i)
def bh (t : Nat → Int) (n i : Nat) : Int × Bool := bhF t n (n - i) false 0 i

theorem bhF_C {t : Nat → Int} {n f : Nat} {ind : Int} {i : Nat} (h : isC (t i) = true) : bhF t n (f + 1) false ind i = bhF t n f true ind (i + 1) := by simp [bhF, h]
theorem bhF_D {t : Nat → Int} {n f : Nat} {ch : Bool} {i : Nat} (h : isD (t i) = true) : bhF t n (f + 1) ch 0 i = bhF t n f ch (t i - 48) (i + 1) := by simp [bhF, h, D_notC h]
theorem bhF_stop {t : Nat → Int} {n f : Nat} {ch : Bool} {ind : Int} {i : Nat} (h1 : isC (t i) = false ∨ ch = true) (h2 : isD (t i) = false ∨ ind ≠ 0) : bhF t n (f + 1) ch ind i = (ind, t i == 32 && rest t n i) := by
  have a : ¬ (isC (t i) = true ∧ ch = false) := by rintro ⟨x, y⟩; rcases h1 with h | h <;> simp_all
  have b : ¬ (isD (t i) = true ∧ ind = 0) := by rintro ⟨x, y⟩; rcases h2 with h | h <;> simp_all
  simp only [bhF, if_neg a, if_neg b]

/-- the shape at i < n: its length and its indentation -/
def hd (t : Nat → Int) (n i : Nat) : Nat × Int :=
  if i + 1 < n ∧ isC (t i) = true ∧ isD (t (i + 1)) = true then (2, t (i + 1) - 48)
  else if i + 1 < n ∧ isD (t i) = true ∧ isC (t (i + 1)) = true then (2, t i - 48)
  else if isC (t i) = true then (1, 0)
  else if isD (t i) = true then (1, t i - 48)
  else (0, 0)
def md (t : Nat → Int) (n i : Nat) : Int × Bool := ((hd t n i).2, tl t n (i + (hd t n i).1))

theorem stuck {t : Nat → Int} {n f : Nat} {ind : Int} {i : Nat} (hf : i + f = n) (h : ind ≠ 0) : bhF t n f true ind i = (ind, tl t n i) := by
  cases f with
  | zero => obtain rfl : i = n := by omega
            simp [bhF, tl_end]
  | succ f => rw [bhF_stop (.inr rfl) (.inr h), rest_tl t n i (by omega)]

/-- The loop answers what the table of shapes answers. -/
theorem bh_md (t : Nat → Int) (n i : Nat) (hi : i < n) : bh t n i = md t n i := by
  obtain ⟨f, hf⟩ : ∃ f, n - i = f + 1 := ⟨n - i - 1, by omega⟩
  unfold bh md
  rw [hf]
  by_cases hC : isC (t i) = true
  · have hD := C_notD hC
    rw [bhF_C hC]
    by_cases h1 : i + 1 < n
    · obtain ⟨f', rfl⟩ : ∃ f', f = f' + 1 := ⟨f - 1, by omega⟩
      by_cases hD1 : isD (t (i + 1)) = true
      · have hb := (isD_iff _).1 hD1
        rw [bhF_D hD1, stuck (by omega) (by omega)]
        have e : hd t n i = (2, t (i + 1) - 48) := by simp [hd, h1, hC, hD1]
        rw [e]
        rfl
      · have hD1' : isD (t (i + 1)) = false := by simpa using hD1
        rw [bhF_stop (.inr rfl) (.inl hD1'), rest_tl t n (i + 1) h1]
        have e : hd t n i = (1, 0) := by simp [hd, hC, hD, hD1']
        rw [e]
    · obtain rfl : f = 0 := by omega
      obtain rfl : n = i + 1 := by omega
      have e : hd t (i + 1) i = (1, 0) := by simp [hd, hC, hD]
      rw [e]
      simp [bhF, tl_end]
  · have hC' : isC (t i) = false := by simpa using hC
    by_cases hD : isD (t i) = true
    · have hb := (isD_iff _).1 hD
      rw [bhF_D hD]
      by_cases h1 : i + 1 < n
      · obtain ⟨f', rfl⟩ : ∃ f', f = f' + 1 := ⟨f - 1, by omega⟩
        by_cases hC1 : isC (t (i + 1)) = true
        · rw [bhF_C hC1, stuck (by omega) (by omega)]
          have e : hd t n i = (2, t i - 48) := by simp [hd, h1, hC', hD, hC1]
          rw [e]
          rfl
        · have hC1' : isC (t (i + 1)) = false := by simpa using hC1
          rw [bhF_stop (.inl hC1') (.inr (by omega)), rest_tl t n (i + 1) h1]
          have e : hd t n i = (1, t i - 48) := by simp [hd, hC', hD, hC1']
          rw [e]
      · obtain rfl : f = 0 := by omega
        obtain rfl : n = i + 1 := by omega
        have e : hd t (i + 1) i = (1, t i - 48) := by simp [hd, hC', hD]
        rw [e]
        simp [bhF, tl_end]
    · have hD' : isD (t i) = false := by simpa using hD
      rw [bhF_stop (.inl hC') (.inl hD'), rest_tl t n i hi]
      have e : hd t n i = (0, 0) := by simp [hd, hC', hD']
      rw [e]
      simp

theorem hd_le (t : Nat → Int) (n i : Nat) (hi : i < n) : i + (hd t n i).1 ≤ n ∧ (hd t n i).1 ≤ 2 := by
  unfold hd
  split
  · rename_i h; have := h.1; simp; omega
  · split
    · rename_i h; have := h.1; simp; omega
    · split
      · simp; omega
      · split <;> simp <;> omega

theorem skip_congr {t t' : Nat → Int} {n k : Nat} (hk : k ≤ n) (h : ∀ q, k ≤ q → q < n → t q = t' q) : skip t n k = skip t' n k := by
  obtain ⟨g1, g2, g3, g4⟩ := skip_spec t n k hk
  refine skip_eq t' n k _ g1 g2 (fun q h1 h2 => ?_) (fun hl => ?_)
  · rw [← h q h1 (by omega)]; exact g3 q h1 h2
  · rw [← h _ g1 hl]; exact g4 hl
theorem tl_congr {t t' : Nat → Int} {n k : Nat} (hk : k ≤ n) (h : ∀ q, k ≤ q → q < n → t q = t' q) : tl t n k = tl t' n k := by
  unfold tl
  by_cases h0 : k = n
  · simp [h0]
  · rw [h k (Nat.le_refl _) (by omega), skip_congr (t := t) (t' := t') (k := k + 1) (by omega) (fun q h1 h2 => h q (by omega) h2)]
    obtain ⟨g1, g2, g3, g4⟩ := skip_spec t' n (k + 1) (by omega)
    by_cases hn : skip t' n (k + 1) = n
    · simp [hn]
    · rw [h (skip t' n (k + 1)) (by omega) (by omega)]

/-- The two indicators at i and i + 1, in either order: the digit's value, and what stands behind both. -/
theorem bh_pair (t : Nat → Int) (n i : Nat) (hi : i + 1 < n) (d : Int) (h : (isC (t i) = true ∧ isD (t (i + 1)) = true ∧ d = t (i + 1)) ∨ (isD (t i) = true ∧ isC (t (i + 1)) = true ∧ d = t i)) :
    bh t n i = (d - 48, tl t n (i + 2)) := by
  rw [bh_md t n i (by omega)]
  unfold md
  rcases h with ⟨h1, h2, rfl⟩ | ⟨h1, h2, rfl⟩
  · have e : hd t n i = (2, t (i + 1) - 48) := by simp [hd, hi, h1, h2]
    rw [e]
  · have e : hd t n i = (2, t i - 48) := by simp [hd, hi, h1, h2, D_notC h1]
    rw [e]
end Go.Proofs.Qxb6603083aMods.Tx
