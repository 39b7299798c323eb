/-
  THE PLAIN LAW of FnParseLengthOrderMatchesBytes: the values of two digit strings of one length are ordered as their bytes are.
-/
import Derived.Test.Qxb6604168aPlain
namespace Go.Proofs.Qxb6604168a

/-- The order of the first n bytes: -1, 0 or 1. -/
def cmpB (f g : Nat → Int) : Nat → Int
  | 0 => 0
  | n + 1 => if cmpB f g n = 0 then (if f n < g n then -1 else if g n < f n then 1 else 0) else cmpB f g n

theorem cmp_keep {f g : Nat → Int} {k : Nat} (h : ¬ cmpB f g k = 0) : ∀ n, k ≤ n → cmpB f g n = cmpB f g k := by
  intro n hn
  induction hn with
  | refl => rfl
  | step _ ih => simp only [cmpB]; rw [ih, if_neg h]

theorem cmp_less {f g : Nat → Int} {k n : Nat} (hk : k < n) (h0 : cmpB f g k = 0) (h : f k < g k) : cmpB f g n = -1 := by
  have e : cmpB f g (k + 1) = -1 := by simp [cmpB, h0, h]
  rw [cmp_keep (k := k + 1) (by omega) n (by omega), e]

theorem cmp_more {f g : Nat → Int} {k n : Nat} (hk : k < n) (h0 : cmpB f g k = 0) (h : g k < f k) : cmpB f g n = 1 := by
  have e : cmpB f g (k + 1) = 1 := by simp [cmpB, h0, h, show ¬ f k < g k by omega]
  rw [cmp_keep (k := k + 1) (by omega) n (by omega), e]

theorem cmp_same {f g : Nat → Int} {k : Nat} (h0 : cmpB f g k = 0) (h1 : ¬ f k < g k) (h2 : ¬ g k < f k) : cmpB f g (k + 1) = 0 := by
  simp [cmpB, h0, h1, h2]

theorem cmp_val (f g : Nat → Int) : ∀ n, digs f n = true → digs g n = true →
    (cmpB f g n = -1 ∧ val f n < val g n) ∨ (cmpB f g n = 0 ∧ val f n = val g n) ∨ (cmpB f g n = 1 ∧ val g n < val f n) := by
  intro n
  induction n with
  | zero => intro _ _; right; left; simp [cmpB, val]
  | succ n ih =>
    intro hf hg
    simp only [digs, Bool.and_eq_true, decide_eq_true_eq] at hf hg
    have := ih hf.1 hg.1
    simp only [cmpB, val]
    rcases this with ⟨h1, h2⟩ | ⟨h1, h2⟩ | ⟨h1, h2⟩
    · rw [h1]; simp; omega
    · rw [h1]
      by_cases a : f n < g n
      · simp [a]; omega
      · by_cases b : g n < f n
        · simp [a, b]; omega
        · simp [a, b]; omega
    · rw [h1]; simp; omega

end Go.Proofs.Qxb6604168a
