/-
  THE PLAIN LAW of the two laws on equalFold: a letter's case, byte by byte.
-/
namespace Go.Proofs.Qxb6604168a

/-- The byte in ASCII lower case; in upper case. -/
def lo (c : Int) : Int := if 65 ≤ c ∧ c ≤ 90 then c + 32 else c
def up (c : Int) : Int := if 97 ≤ c ∧ c ≤ 122 then c - 32 else c
def isUp (c : Int) : Bool := decide (65 ≤ c ∧ c ≤ 90)
def isLo (c : Int) : Bool := decide (97 ≤ c ∧ c ≤ 122)

/-- Do the first n bytes of f, put in lower case, equal those of g? -/
def foldEq (f g : Nat → Int) : Nat → Bool
  | 0 => true
  | n + 1 => foldEq f g n && decide (lo (f n) = g n)

theorem fold_iff (f g : Nat → Int) (n : Nat) : foldEq f g n = true ↔ ∀ i, i < n → lo (f i) = g i := by
  induction n with
  | zero => simp [foldEq]
  | succ n ih =>
    simp only [foldEq, Bool.and_eq_true, decide_eq_true_eq, ih]
    constructor
    · rintro ⟨h1, h2⟩ i hi
      rcases Nat.lt_or_ge i n with h | h
      · exact h1 i h
      · obtain rfl : i = n := by omega
        exact h2
    · intro h
      exact ⟨fun i hi => h i (by omega), h n (by omega)⟩

theorem fold_stop {f g : Nat → Int} {k n : Nat} (hk : k < n) (h : ¬ lo (f k) = g k) : foldEq f g n = false := by
  cases hd : foldEq f g n with
  | false => rfl
  | true => exact absurd ((fold_iff f g n).1 hd k hk) h

/-- No capital among the first n bytes of g. -/
def noCap (g : Nat → Int) : Nat → Bool
  | 0 => true
  | n + 1 => noCap g n && !isUp (g n)

/-- The first n bytes of f and g are the same in upper case. -/
def upEq (f g : Nat → Int) : Nat → Bool
  | 0 => true
  | n + 1 => upEq f g n && decide (up (f n) = up (g n))

theorem fold_step (c d : Int) : (lo c = d) ↔ (isUp d = false ∧ up c = up d) := by
  unfold lo up isUp
  simp only [decide_eq_false_iff_not]
  split <;> split <;> split <;> omega

theorem fold_law (f g : Nat → Int) (n : Nat) : foldEq f g n = (noCap g n && upEq f g n) := by
  induction n with
  | zero => rfl
  | succ n ih =>
    simp only [foldEq, noCap, upEq, ih]
    rw [Bool.eq_iff_iff]
    simp only [Bool.and_eq_true, decide_eq_true_eq, fold_step, Bool.not_eq_true']
    constructor
    · rintro ⟨⟨a, b⟩, c, d⟩; exact ⟨⟨a, c⟩, b, d⟩
    · rintro ⟨⟨a, c⟩, b, d⟩; exact ⟨⟨a, b⟩, c, d⟩

/-- An ASCII letter among the first n bytes. -/
def letr (f : Nat → Int) : Nat → Bool
  | 0 => false
  | n + 1 => letr f n || (isUp (f n) || isLo (f n))

theorem fold_lower (f : Nat → Int) (n : Nat) : foldEq f (fun i => lo (f i)) n = true := by
  rw [fold_iff]; exact fun _ _ => rfl

theorem up_step (c : Int) : (lo c = up c) ↔ (isUp c || isLo c) = false := by
  unfold lo up isUp isLo
  rw [Bool.or_eq_false_iff, decide_eq_false_iff_not, decide_eq_false_iff_not]
  split <;> split <;> omega

theorem fold_upper (f : Nat → Int) (n : Nat) : foldEq f (fun i => up (f i)) n = !letr f n := by
  induction n with
  | zero => rfl
  | succ n ih =>
    simp only [foldEq, letr, ih, Bool.not_or]
    congr 1
    rw [Bool.eq_iff_iff, decide_eq_true_eq, up_step]
    simp [Bool.or_eq_false_iff]

end Go.Proofs.Qxb6604168a
