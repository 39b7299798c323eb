/-
  THE PLAIN FUNCTIONS: bytes as a function of the place, what parseLength, equalFold and the laws' helpers compute. No Go in sight.
-/
namespace Go.Proofs.Qxb6604168a

/-- The value of the first n digits. -/
def val (f : Nat → Int) : Nat → Int
  | 0 => 0
  | n + 1 => val f n * 10 + (f n - 48)

/-- Are the first n bytes decimal digits? -/
def digs (f : Nat → Int) : Nat → Bool
  | 0 => true
  | n + 1 => digs f n && decide (48 ≤ f n ∧ f n ≤ 57)

theorem digs_iff (f : Nat → Int) (n : Nat) : digs f n = true ↔ ∀ i, i < n → 48 ≤ f i ∧ f i ≤ 57 := by
  induction n with
  | zero => simp [digs]
  | succ n ih =>
    simp only [digs, Bool.and_eq_true, decide_eq_true_eq, ih]
    constructor
    · rintro ⟨h1, h2⟩ i hi
      rcases Nat.lt_or_ge i n with h | h
      · exact h1 i h
      · obtain rfl : i = n := by omega
        exact h2
    · intro h
      exact ⟨fun i hi => h i (by omega), h n (by omega)⟩

theorem val_nonneg (f : Nat → Int) (n : Nat) (h : digs f n = true) : 0 ≤ val f n := by
  induction n with
  | zero => simp [val]
  | succ n ih =>
    simp only [digs, Bool.and_eq_true, decide_eq_true_eq] at h
    have := ih h.1
    simp only [val]
    omega

theorem val_lt (f : Nat → Int) (n : Nat) (h : digs f n = true) : val f n < 10 ^ n := by
  induction n with
  | zero => simp [val]
  | succ n ih =>
    simp only [digs, Bool.and_eq_true, decide_eq_true_eq] at h
    have := ih h.1
    simp only [val]
    rw [Int.pow_succ]
    omega

theorem pow_le17 (n : Nat) (h : n ≤ 17) : (10 : Int) ^ n ≤ 100000000000000000 := by
  have : (10 : Int) ^ n ≤ 10 ^ 17 := by
    have := Nat.pow_le_pow_right (n := 10) (by omega) h
    exact_mod_cast this
  simpa using this

theorem val_lt17 (f : Nat → Int) (n : Nat) (h : digs f n = true) (hn : n ≤ 17) : val f n < 100000000000000000 := by
  have := val_lt f n h
  have := pow_le17 n hn
  omega

/-- What parseLength answers: the flag, the value. -/
def plB (f : Nat → Int) (n : Nat) : Bool := decide (1 ≤ n ∧ n ≤ 18) && digs f n
def plV (f : Nat → Int) (n : Nat) : Int := if plB f n = true then val f n else 0

theorem digs_mono (f : Nat → Int) (k n : Nat) (h : k ≤ n) (hd : digs f n = true) : digs f k = true := by
  rw [digs_iff] at hd ⊢
  exact fun i hi => hd i (by omega)

theorem pl_yes {f : Nat → Int} {n : Nat} (h1 : 1 ≤ n) (h2 : n ≤ 18) (hd : digs f n = true) : plB f n = true ∧ plV f n = val f n := by
  have : plB f n = true := by simp [plB, h1, h2, hd]
  exact ⟨this, by simp [plV, this]⟩

theorem pl_no {f : Nat → Int} {n : Nat} (h : ¬ (1 ≤ n ∧ n ≤ 18) ∨ digs f n = false) : plB f n = false ∧ plV f n = 0 := by
  have : plB f n = false := by
    rcases h with h | h
    · simp [plB, h]
    · simp [plB, h]
  exact ⟨this, by simp [plV, this]⟩

theorem digs_stop {f : Nat → Int} {k n : Nat} (hk : k < n) (h : ¬ (48 ≤ f k ∧ f k ≤ 57)) : digs f n = false := by
  cases hd : digs f n with
  | false => rfl
  | true => exact absurd ((digs_iff f n).1 hd k hk) h

end Go.Proofs.Qxb6604168a
