/-
  THE PLAIN FUNCTIONS: three octal digits; one step of unescape; what is written behind j steps. No Go in sight.
-/
namespace Go.Proofs.Qxb6604225aDoor

/-- The value of the first n octal digits of g. -/
def v8 (g : Nat → Int) : Nat → Int
  | 0 => 0
  | n + 1 => v8 g n * 8 + (g n - 48)

/-- Are the first n bytes octal digits? -/
def octs (g : Nat → Int) : Nat → Bool
  | 0 => true
  | n + 1 => octs g n && decide (48 ≤ g n ∧ g n ≤ 55)

theorem octs_iff (g : Nat → Int) (n : Nat) : octs g n = true ↔ ∀ i, i < n → 48 ≤ g i ∧ g i ≤ 55 := by
  induction n with
  | zero => simp [octs]
  | succ n ih =>
    simp only [octs, Bool.and_eq_true, decide_eq_true_eq, ih]
    constructor
    · rintro ⟨h1, h2⟩ i hi
      rcases Nat.lt_or_ge i n with h | h
      · exact h1 i h
      · obtain rfl : i = n := by omega
        exact h2
    · intro h
      exact ⟨fun i hi => h i (by omega), h n (by omega)⟩

/-- Three octal digits that spell a byte. -/
def ok8 (g : Nat → Int) : Bool := octs g 3 && decide (v8 g 3 ≤ 255)

theorem ok8_stop {g : Nat → Int} {k : Nat} (hk : k < 3) (h : ¬ (48 ≤ g k ∧ g k ≤ 55)) : ok8 g = false := by
  cases hd : octs g 3 with
  | false => simp [ok8, hd]
  | true => exact absurd ((octs_iff g 3).1 hd k hk) h

theorem v8_bound {g : Nat → Int} : ∀ k, octs g k = true → 0 ≤ v8 g k ∧ v8 g k < 8 ^ k := by
  intro k
  induction k with
  | zero => intro _; simp [v8]
  | succ k ih =>
    intro h
    simp only [octs, Bool.and_eq_true, decide_eq_true_eq] at h
    have := ih h.1
    simp only [v8]
    rw [Int.pow_succ]
    omega

theorem v8_small {g : Nat → Int} {k : Nat} (h : octs g k = true) (hk : k ≤ 2) : v8 g k ≤ 63 := by
  have h1 := (v8_bound k h).2
  have h2 : (8 : Int) ^ k ≤ 8 ^ 2 := by
    have := Nat.pow_le_pow_right (n := 8) (by omega) hk
    exact_mod_cast this
  have h3 : (8 : Int) ^ 2 = 64 := by decide
  omega

end Go.Proofs.Qxb6604225aDoor
