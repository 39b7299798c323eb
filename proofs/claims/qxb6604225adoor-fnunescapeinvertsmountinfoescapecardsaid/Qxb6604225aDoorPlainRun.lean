/-
  THE PLAIN LAW: unescape, step by step; the bounds on its length.
-/
import Derived.Test.Qxb6604225aDoorPlain
namespace Go.Proofs.Qxb6604225aDoor

theorem v8_congr {g h : Nat → Int} : ∀ n, (∀ j, j < n → g j = h j) → v8 g n = v8 h n ∧ octs g n = octs h n := by
  intro n
  induction n with
  | zero => intro _; exact ⟨rfl, rfl⟩
  | succ n ih =>
    intro H
    have h1 := ih (fun j hj => H j (by omega))
    have h2 := H n (by omega)
    simp only [v8, octs, h1.1, h1.2, h2]
    exact ⟨trivial, trivial⟩

theorem ok8_congr {g h : Nat → Int} (H : ∀ j, j < 3 → g j = h j) : ok8 g = ok8 h ∧ v8 g 3 = v8 h 3 := by
  have := v8_congr 3 H
  unfold ok8
  rw [this.1, this.2]
  exact ⟨rfl, rfl⟩

theorem ok8_bound {g : Nat → Int} (h : ok8 g = true) : 0 ≤ v8 g 3 ∧ v8 g 3 ≤ 255 := by
  unfold ok8 at h
  simp only [Bool.and_eq_true, decide_eq_true_eq] at h
  exact ⟨(v8_bound 3 h.1).1, h.2⟩

/-- The three bytes behind place k. -/
def tail3 (g : Nat → Int) (k : Nat) : Nat → Int := fun j => g (k + 1 + j)

/-- Does an escape stand at place k of n bytes? -/
def isEsc (g : Nat → Int) (n k : Nat) : Bool := decide (g k = 92 ∧ k + 4 ≤ n) && ok8 (tail3 g k)

/-- What is written at place k; the place behind it. -/
def stV (g : Nat → Int) (n k : Nat) : Int := if isEsc g n k = true then v8 (tail3 g k) 3 else g k
def stK (g : Nat → Int) (n k : Nat) : Nat := if isEsc g n k = true then k + 4 else k + 1

/-- Behind j steps: the place; what has been written. -/
def run (g : Nat → Int) (n : Nat) : Nat → Nat × List Int
  | 0 => (0, [])
  | j + 1 => if (run g n j).1 < n then (stK g n (run g n j).1, (run g n j).2 ++ [stV g n (run g n j).1]) else run g n j

theorem run_step {g : Nat → Int} {n j k : Nat} {l : List Int} (h : run g n j = (k, l)) (hk : k < n) : run g n (j + 1) = (stK g n k, l ++ [stV g n k]) := by
  simp only [run, h, hk, if_true]

theorem stK_le {g : Nat → Int} {n k : Nat} (hk : k < n) : stK g n k ≤ n := by
  unfold stK
  split
  · rename_i h
    simp only [isEsc, Bool.and_eq_true, decide_eq_true_eq] at h
    omega
  · omega

/-- The length, at every step. -/
theorem run_len (g : Nat → Int) (n : Nat) : ∀ j, (run g n j).2.length ≤ (run g n j).1 ∧ (run g n j).1 ≤ 4 * (run g n j).2.length ∧ ((run g n j).1 - (run g n j).2.length) % 3 = 0 := by
  intro j
  induction j with
  | zero => simp [run]
  | succ j ih =>
    simp only [run]
    split
    · simp only [List.length_append, List.length_cons, List.length_nil]
      unfold stK
      split <;> omega
    · exact ih

end Go.Proofs.Qxb6604225aDoor
