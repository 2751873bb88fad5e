/- Plain mathematics of texts: spaces skipped, where a plain scalar stops. No Go in sight but 'TextAt', which says that a row of bytes lies in memory. -/
import Derived.WalkKit
namespace Go.Proofs.Qxb6603083aMods.Tx
open Go.RowKit
set_option linter.unusedVariables false
set_option linter.unusedSimpArgs false

/-- The first n bytes from ⟨b, off⟩ on are t 0, t 1, .. -/
def TextAt (w : World) (b off n : Nat) (t : Nat → Int) : Prop := ∀ k, k < n → w.cell? ⟨b, off + k, none⟩ = some (.int .u8 (t k))
theorem TextAt.at {w : World} {b off n : Nat} {t : Nat → Int} (h : TextAt w b off n t) {k : Nat} (hk : k < n) : w.cell? ⟨b, off + k, none⟩ = some (.int .u8 (t k)) := h k hk
theorem TextAt.below {B : Nat} {w w' : World} {b off n : Nat} {t : Nat → Int} (h : TextAt w b off n t) (hb : Below B w w') (hB : b < B) : TextAt w' b off n t := fun k hk => by
  rw [hb.cell (by exact hB)]; exact h k hk
theorem TextAt.shift {w : World} {b off n : Nat} {t : Nat → Int} (h : TextAt w b off n t) (i : Nat) : TextAt w b (off + i) (n - i) (fun k => t (i + k)) := fun k hk => by
  have := h (i + k) (by omega)
  rwa [← Nat.add_assoc] at this

theorem vint {k : IntKind} {a b : Int} (h : a = b) : Value.int k a = Value.int k b := by rw [h]
theorem vbool {a b : Bool} (h : a = b) : Value.bool a = Value.bool b := by rw [h]
theorem hid {p : Prop} (h : p) : Hid p := h

/-- where the spaces from i on end -/
def skipF (t : Nat → Int) : Nat → Nat → Nat
  | 0, i => i
  | f + 1, i => if t i = 32 then skipF t f (i + 1) else i
def skip (t : Nat → Int) (n i : Nat) : Nat := skipF t (n - i) i

theorem skipF_spec (t : Nat → Int) (f i : Nat) : i ≤ skipF t f i ∧ skipF t f i ≤ i + f ∧ (∀ k, i ≤ k → k < skipF t f i → t k = 32) ∧ (skipF t f i < i + f → t (skipF t f i) ≠ 32) := by
  induction f generalizing i with
  | zero => exact ⟨Nat.le_refl _, Nat.le_refl _, fun k h1 h2 => by simp [skipF] at h2; omega, fun h => by simp [skipF] at h⟩
  | succ f ih =>
    by_cases h : t i = 32
    · have e : skipF t (f + 1) i = skipF t f (i + 1) := by simp [skipF, h]
      obtain ⟨h1, h2, h3, h4⟩ := ih (i + 1)
      rw [e]
      refine ⟨by omega, by omega, fun k hk1 hk2 => ?_, fun hk => h4 (by omega)⟩
      by_cases hki : k = i
      · rw [hki]; exact h
      · exact h3 k (by omega) hk2
    · have e : skipF t (f + 1) i = i := by simp [skipF, h]
      rw [e]
      exact ⟨Nat.le_refl _, by omega, fun k h1 h2 => by omega, fun _ => h⟩
theorem skip_spec (t : Nat → Int) (n i : Nat) (hi : i ≤ n) : i ≤ skip t n i ∧ skip t n i ≤ n ∧ (∀ k, i ≤ k → k < skip t n i → t k = 32) ∧ (skip t n i < n → t (skip t n i) ≠ 32) := by
  obtain ⟨h1, h2, h3, h4⟩ := skipF_spec t (n - i) i
  exact ⟨h1, by unfold skip; omega, h3, fun h => h4 (by unfold skip at h; omega)⟩
theorem skip_eq (t : Nat → Int) (n i j : Nat) (h1 : i ≤ j) (h2 : j ≤ n) (h3 : ∀ k, i ≤ k → k < j → t k = 32) (h4 : j < n → t j ≠ 32) : j = skip t n i := by
  obtain ⟨g1, g2, g3, g4⟩ := skip_spec t n i (by omega)
  rcases Nat.lt_trichotomy j (skip t n i) with h | h | h
  · exact absurd (g3 j h1 h) (h4 (by omega))
  · exact h
  · exact absurd (h3 _ g1 h) (g4 (by omega))

/-- a colon stop, a comment's stop -/
def colonAt (t : Nat → Int) (n p : Nat) : Prop := t p = 58 ∧ (p + 1 = n ∨ t (p + 1) = 32)
def hashAt (t : Nat → Int) (i p : Nat) : Prop := t p = 35 ∧ i < p ∧ t (p - 1) = 32

/-- What a reading of a plain scalar from i on answers. -/
def PS (t : Nat → Int) (n i e s : Nat) (c : Bool) : Prop :=
  i ≤ e ∧ e ≤ s ∧ s ≤ n ∧ (∀ p, i ≤ p → p < s → ¬ colonAt t n p ∧ ¬ hashAt t i p) ∧
  ((c = true ∧ s < n ∧ colonAt t n s) ∨ (c = false ∧ ((s < n ∧ hashAt t i s) ∨ s = n))) ∧
  (∀ q, e ≤ q → q < s → t q = 32) ∧ (e = i ∨ t (e - 1) ≠ 32)

theorem PS_stop {t : Nat → Int} {n i e s e' s' : Nat} {c c' : Bool} (h : PS t n i e s c) (h' : PS t n i e' s' c') : ¬ s < s' := by
  obtain ⟨a1, a2, a3, a4, a5, a6, a7⟩ := h
  obtain ⟨b1, b2, b3, b4, b5, b6, b7⟩ := h'
  intro hs
  obtain ⟨g1, g2⟩ := b4 s (by omega) hs
  rcases a5 with ⟨_, _, h⟩ | ⟨_, ⟨_, h⟩ | h⟩
  · exact g1 h
  · exact g2 h
  · omega
theorem PS_end {t : Nat → Int} {n i e s e' : Nat} {c c' : Bool} (h : PS t n i e s c) (h' : PS t n i e' s c') : ¬ e < e' := by
  obtain ⟨a1, a2, a3, a4, a5, a6, a7⟩ := h
  obtain ⟨b1, b2, b3, b4, b5, b6, b7⟩ := h'
  intro he
  rcases b7 with h | h
  · omega
  · exact h (a6 (e' - 1) (by omega) (by omega))
/-- There is one answer. -/
theorem PS_one {t : Nat → Int} {n i e s e' s' : Nat} {c c' : Bool} (h : PS t n i e s c) (h' : PS t n i e' s' c') : e = e' ∧ s = s' ∧ c = c' := by
  have h1 := PS_stop h h'
  have h2 := PS_stop h' h
  obtain rfl : s = s' := by omega
  have h3 := PS_end h h'
  have h4 := PS_end h' h
  refine ⟨by omega, rfl, ?_⟩
  obtain ⟨a1, a2, a3, a4, a5, a6, a7⟩ := h
  obtain ⟨b1, b2, b3, b4, b5, b6, b7⟩ := h'
  rcases a5 with ⟨r, _, x⟩ | ⟨r, x⟩ <;> rcases b5 with ⟨r', _, y⟩ | ⟨r', y⟩
  · rw [r, r']
  · rcases y with ⟨_, y⟩ | y
    · have := x.1; have := y.1; omega
    · omega
  · rcases x with ⟨_, x⟩ | x
    · have := x.1; have := y.1; omega
    · omega
  · rw [r, r']
/-- Reading from i on is reading the rest from 0 on. -/
theorem PS_shift {t : Nat → Int} {n i e s : Nat} {c : Bool} (hi : i ≤ n) (h : PS (fun k => t (i + k)) (n - i) 0 e s c) : PS t n i (e + i) (s + i) c := by
  obtain ⟨a1, a2, a3, a4, a5, a6, a7⟩ := h
  have hcol : ∀ p, colonAt (fun k => t (i + k)) (n - i) p ↔ colonAt t n (p + i) := fun p => by
    unfold colonAt
    dsimp only
    rw [show i + p = p + i from by omega, show i + (p + 1) = p + i + 1 from by omega]
    constructor
    · rintro ⟨x, y⟩; exact ⟨x, by rcases y with y | y; (left; omega); (right; exact y)⟩
    · rintro ⟨x, y⟩; exact ⟨x, by rcases y with y | y; (left; omega); (right; exact y)⟩
  have hha : ∀ p, hashAt (fun k => t (i + k)) 0 p ↔ hashAt t i (p + i) := fun p => by
    unfold hashAt
    dsimp only
    rw [show i + p = p + i from by omega]
    constructor
    · rintro ⟨x, y, z⟩; exact ⟨x, by omega, by rw [show p + i - 1 = i + (p - 1) from by omega]; exact z⟩
    · rintro ⟨x, y, z⟩; exact ⟨x, by omega, by rw [show i + (p - 1) = p + i - 1 from by omega]; exact z⟩
  refine ⟨by omega, by omega, by omega, fun p h1 h2 => ?_, ?_, fun q h1 h2 => ?_, ?_⟩
  · have := a4 (p - i) (by omega) (by omega)
    rw [hcol, hha, show p - i + i = p from by omega] at this
    exact this
  · rcases a5 with ⟨r, x, y⟩ | ⟨r, ⟨x, y⟩ | x⟩
    · exact .inl ⟨r, by omega, (hcol _).1 y⟩
    · exact .inr ⟨r, .inl ⟨by omega, (hha _).1 y⟩⟩
    · exact .inr ⟨r, .inr (by omega)⟩
  · have := a6 (q - i) (by omega) (by omega)
    dsimp only at this
    rwa [show i + (q - i) = q from by omega] at this
  · rcases a7 with h | h
    · left; omega
    · by_cases h0 : e = 0
      · left; omega
      · right; dsimp only at h; rwa [show i + (e - 1) = e + i - 1 from by omega] at h

/-- The scan's invariant at j: no stop before j, the text so far ends at e, no comment begins at j. -/
def Inv (t : Nat → Int) (n i e j : Nat) : Prop :=
  i ≤ e ∧ e ≤ j ∧ j ≤ n ∧ (∀ p, i ≤ p → p < j → ¬ colonAt t n p ∧ ¬ hashAt t i p) ∧ (∀ q, e ≤ q → q < j → t q = 32) ∧ (e = i ∨ t (e - 1) ≠ 32) ∧ (j < n → ¬ hashAt t i j)
theorem Inv_start (t : Nat → Int) (n i : Nat) (hi : i ≤ n) : Inv t n i i i :=
  ⟨Nat.le_refl _, Nat.le_refl _, hi, fun p h1 h2 => by omega, fun q h1 h2 => by omega, .inl rfl, fun _ h => by have := h.2.1; omega⟩
theorem Inv_colon {t : Nat → Int} {n i e j : Nat} (h : Inv t n i e j) (hj : j < n) (hc : t j = 58) (hs : j + 1 = n ∨ t (j + 1) = 32) : PS t n i e j true := by
  obtain ⟨a1, a2, a3, a4, a5, a6, a7⟩ := h
  exact ⟨a1, a2, a3, a4, .inl ⟨rfl, hj, hc, hs⟩, a5, a6⟩
theorem Inv_end {t : Nat → Int} {n i e : Nat} (h : Inv t n i e n) : PS t n i e n false := by
  obtain ⟨a1, a2, a3, a4, a5, a6, a7⟩ := h
  exact ⟨a1, a2, a3, a4, .inr ⟨rfl, .inr rfl⟩, a5, a6⟩
theorem Inv_plain {t : Nat → Int} {n i e j : Nat} (h : Inv t n i e j) (hj : j < n) (h32 : t j ≠ 32) (hc : ¬ colonAt t n j) : Inv t n i (j + 1) (j + 1) := by
  obtain ⟨a1, a2, a3, a4, a5, a6, a7⟩ := h
  refine ⟨by omega, Nat.le_refl _, by omega, fun p h1 h2 => ?_, fun q h1 h2 => by omega, .inr (by simpa using h32), fun _ h => h32 (by have := h.2.2; simpa using this)⟩
  by_cases hp : p = j
  · rw [hp]; exact ⟨hc, a7 hj⟩
  · exact a4 p h1 (by omega)
theorem Inv_spaces {t : Nat → Int} {n i e j : Nat} (h : Inv t n i e j) (hj : j < n) (h32 : t j = 32) :
    (skip t n j < n ∧ t (skip t n j) = 35 → PS t n i e (skip t n j) false) ∧ (¬ (skip t n j < n ∧ t (skip t n j) = 35) → Inv t n i e (skip t n j)) ∧ j < skip t n j := by
  obtain ⟨a1, a2, a3, a4, a5, a6, a7⟩ := h
  obtain ⟨g1, g2, g3, g4⟩ := skip_spec t n j (by omega)
  have hlt : j < skip t n j := by
    rcases Nat.lt_or_ge j (skip t n j) with h | h
    · exact h
    · have e : skip t n j = j := by omega
      rw [e] at g4
      exact absurd h32 (g4 hj)
  have no : ∀ p, i ≤ p → p < skip t n j → ¬ colonAt t n p ∧ ¬ hashAt t i p := fun p h1 h2 => by
    by_cases hp : p < j
    · exact a4 p h1 hp
    · have := g3 p (by omega) h2
      exact ⟨fun h => by have := h.1; omega, fun h => by have := h.1; omega⟩
  have sp : ∀ q, e ≤ q → q < skip t n j → t q = 32 := fun q h1 h2 => by
    by_cases hq : q < j
    · exact a5 q h1 hq
    · exact g3 q (by omega) h2
  refine ⟨fun hh => ⟨a1, by omega, g2, no, .inr ⟨rfl, .inl ⟨hh.1, hh.2, by omega, g3 _ (by omega) (by omega)⟩⟩, sp, a6⟩, fun hh => ?_, hlt⟩
  exact ⟨a1, by omega, g2, no, sp, a6, fun hn h => hh ⟨hn, h.1⟩⟩
end Go.Proofs.Qxb6603083aMods.Tx
