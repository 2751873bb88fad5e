/- The plain mathematics of chosenAbove: a table of chosen directories, the slashes of a path. No Go in sight. -/
import Derived.Below
namespace Go.Proofs.Qxb6603739aMods.Ch
open Go.RowKit
set_option linter.unusedVariables false
set_option linter.unusedSimpArgs false

theorem hid {p : Prop} (h : p) : Hid p := h
theorem vint {k : IntKind} {a b : Int} (h : a = b) : Value.int k a = Value.int k b := by rw [h]
theorem vbool {a b : Bool} (h : a = b) : Value.bool a = Value.bool b := by rw [h]

/-- the table after its first k entries: a key's last entry wins -/
def ch (ks : Nat → ByteArray) (vs : Nat → Bool) : Nat → ByteArray → Bool
  | 0, _ => false
  | k + 1, s => if s = ks k then vs k else ch ks vs k s
theorem ch_key {ks : Nat → ByteArray} {vs : Nat → Bool} {n : Nat} {s : ByteArray} (h : ch ks vs n s = true) : ∃ q, q < n ∧ ks q = s := by
  induction n with
  | zero => simp [ch] at h
  | succ k ih =>
    simp only [ch] at h
    split at h
    · rename_i e; exact ⟨k, by omega, e.symm⟩
    · obtain ⟨q, h1, h2⟩ := ih h; exact ⟨q, by omega, h2⟩

/-- the byte at i, 0 behind the end -/
def byte (p : ByteArray) (i : Nat) : Int := if h : i < p.size then (p[i].toNat : Int) else 0
theorem byte_in (p : ByteArray) (i : Nat) (h : i < p.size) : byte p i = (p[i].toNat : Int) := by simp [byte, h]

def dot : ByteArray := ⟨#[46]⟩
def slash : ByteArray := ⟨#[47]⟩

/-- a slash among the first k bytes of p with a chosen directory ahead of it -/
def upTo (f : ByteArray → Bool) (p : ByteArray) : Nat → Bool
  | 0 => false
  | k + 1 => upTo f p k || (byte p k == 47 && f (p.extract 0 k))
def above (f : ByteArray → Bool) (p : ByteArray) : Bool := f dot || upTo f p p.size

theorem upTo_iff (f : ByteArray → Bool) (p : ByteArray) (n : Nat) : upTo f p n = true ↔ ∃ i, i < n ∧ byte p i = 47 ∧ f (p.extract 0 i) = true := by
  induction n with
  | zero => simp [upTo]
  | succ k ih =>
    simp only [upTo, Bool.or_eq_true, Bool.and_eq_true, beq_iff_eq, ih]
    constructor
    · rintro (⟨i, h1, h2, h3⟩ | ⟨h1, h2⟩)
      · exact ⟨i, by omega, h2, h3⟩
      · exact ⟨k, by omega, h1, h2⟩
    · rintro ⟨i, h1, h2, h3⟩
      by_cases hi : i = k
      · subst hi; exact .inr ⟨h2, h3⟩
      · exact .inl ⟨i, by omega, h2, h3⟩
theorem above_iff (f : ByteArray → Bool) (p : ByteArray) : above f p = true ↔ f dot = true ∨ ∃ i, i < p.size ∧ byte p i = 47 ∧ f (p.extract 0 i) = true := by
  simp only [above, Bool.or_eq_true, upTo_iff]

theorem extract_all (p : ByteArray) (i : Nat) (h : p.size ≤ i) : p.extract 0 i = p := by
  have := @ByteArray.extract_append p ByteArray.empty 0 i
  apply ByteArray.ext
  simp
  omega
theorem extract_none (p : ByteArray) (i : Nat) : p.extract 0 0 = ByteArray.empty := by
  apply ByteArray.ext
  simp

/-- p, a slash, x -/
def join (p x : ByteArray) : ByteArray := p ++ slash ++ x
theorem slash_size : slash.size = 1 := rfl
theorem join_size (p x : ByteArray) : (join p x).size = p.size + 1 + x.size := by simp [join, ByteArray.size_append, slash_size]
theorem byte_append_left (p x : ByteArray) (i : Nat) (h : i < p.size) : byte (p ++ x) i = byte p i := by
  rw [byte_in (p ++ x) i (by rw [ByteArray.size_append]; omega), byte_in p i h, ByteArray.getElem_append_left h]
theorem byte_append_right (p x : ByteArray) (i : Nat) : byte (p ++ x) (p.size + i) = byte x i := by
  by_cases h : i < x.size
  · rw [byte_in (p ++ x) _ (by rw [ByteArray.size_append]; omega), byte_in x i h, ByteArray.getElem_append_right (by omega)]
    simp
  · simp [byte, ByteArray.size_append, h]
theorem extract_append_left (p x : ByteArray) (i : Nat) (h : i ≤ p.size) : (p ++ x).extract 0 i = p.extract 0 i := by
  apply ByteArray.ext
  simp
  omega
theorem join_left (p x : ByteArray) (i : Nat) (h : i < p.size) : byte (join p x) i = byte p i ∧ (join p x).extract 0 i = p.extract 0 i := by
  have hs : (p ++ slash).size = p.size + 1 := by rw [ByteArray.size_append, slash_size]
  unfold join
  exact ⟨by rw [byte_append_left _ _ _ (by omega), byte_append_left _ _ _ h], by rw [extract_append_left _ _ _ (by omega), extract_append_left _ _ _ (by omega)]⟩
theorem join_mid (p x : ByteArray) : byte (join p x) p.size = 47 ∧ (join p x).extract 0 p.size = p := by
  have hs : (p ++ slash).size = p.size + 1 := by rw [ByteArray.size_append, slash_size]
  unfold join
  refine ⟨?_, by rw [extract_append_left _ _ _ (by omega), extract_append_left _ _ _ (by omega), extract_all _ _ (Nat.le_refl _)]⟩
  rw [byte_append_left _ _ _ (by omega)]
  have := byte_append_right p slash 0
  rw [Nat.add_zero] at this
  rw [this]
  rfl
theorem join_right (p x : ByteArray) (i : Nat) : byte (join p x) (p.size + 1 + i) = byte x i := by
  have hs : (p ++ slash).size = p.size + 1 := by rw [ByteArray.size_append, slash_size]
  unfold join
  rw [← hs]
  exact byte_append_right _ _ _

/-- Below a chosen directory all lies below a chosen directory. -/
theorem above_below (f : ByteArray → Bool) (p x : ByteArray) (h : f p = true ∨ above f p = true) : above f (join p x) = true := by
  rw [above_iff]
  rcases h with h | h
  · exact .inr ⟨p.size, by rw [join_size]; omega, (join_mid p x).1, by rw [(join_mid p x).2]; exact h⟩
  · rcases (above_iff f p).1 h with h | ⟨i, h1, h2, h3⟩
    · exact .inl h
    · exact .inr ⟨i, by rw [join_size]; omega, by rw [(join_left p x i h1).1]; exact h2, by rw [(join_left p x i h1).2]; exact h3⟩
/-- One step to the parent. -/
theorem above_step (f : ByteArray → Bool) (p x : ByteArray) (hx : ∀ i, i < x.size → byte x i ≠ 47) : above f (join p x) = (above f p || f p) := by
  rw [Bool.eq_iff_iff]
  constructor
  · intro h
    rw [Bool.or_eq_true]
    rcases (above_iff _ _).1 h with h | ⟨i, h1, h2, h3⟩
    · exact .inl ((above_iff _ _).2 (.inl h))
    · rcases Nat.lt_trichotomy i p.size with hi | hi | hi
      · rw [(join_left p x i hi).1] at h2
        rw [(join_left p x i hi).2] at h3
        exact .inl ((above_iff _ _).2 (.inr ⟨i, hi, h2, h3⟩))
      · subst hi
        rw [(join_mid p x).2] at h3
        exact .inr h3
      · rw [join_size] at h1
        have e : i = p.size + 1 + (i - p.size - 1) := by omega
        rw [e, join_right] at h2
        exact absurd h2 (hx _ (by omega))
  · intro h
    rw [Bool.or_eq_true] at h
    exact above_below f p x h.symm
theorem above_plain (f : ByteArray → Bool) (x : ByteArray) (hx : ∀ i, i < x.size → byte x i ≠ 47) : above f x = f dot := by
  rw [Bool.eq_iff_iff, above_iff]
  exact ⟨fun h => by rcases h with h | ⟨i, h1, h2, _⟩; (exact h); (exact absurd h2 (hx i h1)), fun h => .inl h⟩

/-- does the key k tell that p lies below a chosen directory? -/
def hit (f : ByteArray → Bool) (p k : ByteArray) : Prop := f k = true ∧ (k = dot ∨ (k.size < p.size ∧ p.extract 0 k.size = k ∧ byte p k.size = 47))
theorem above_scan (ks : Nat → ByteArray) (vs : Nat → Bool) (n : Nat) (p : ByteArray) : above (ch ks vs n) p = true ↔ ∃ q, q < n ∧ hit (ch ks vs n) p (ks q) := by
  rw [above_iff]
  constructor
  · rintro (h | ⟨i, h1, h2, h3⟩)
    · obtain ⟨q, hq, e⟩ := ch_key h
      exact ⟨q, hq, by rw [e]; exact ⟨h, .inl rfl⟩⟩
    · obtain ⟨q, hq, e⟩ := ch_key h3
      have hs : (p.extract 0 i).size = i := by rw [ByteArray.size_extract]; omega
      exact ⟨q, hq, by rw [e]; exact ⟨h3, .inr ⟨by omega, by rw [hs], by rw [hs]; exact h2⟩⟩⟩
  · rintro ⟨q, hq, h1, h2 | ⟨h2, h3, h4⟩⟩
    · exact .inl (by rw [← h2]; exact h1)
    · exact .inr ⟨_, h2, h4, by rw [h3]; exact h1⟩
end Go.Proofs.Qxb6603739aMods.Ch
