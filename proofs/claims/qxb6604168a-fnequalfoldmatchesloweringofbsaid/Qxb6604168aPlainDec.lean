/-
  THE PLAIN LAW of FnParseLengthRoundTrip: the digits of a number, read back behind whatever zeros.
-/
import Derived.Test.Qxb6604168aPlain
namespace Go.Proofs.Qxb6604168a

/-- What is left of n when m digits are taken off its end. -/
def nq (n : Int) : Nat → Int
  | 0 => n
  | m + 1 => nq n m / 10

theorem nq_nonneg {n : Int} (h : 0 ≤ n) : ∀ m, 0 ≤ nq n m := by
  intro m
  induction m with
  | zero => exact h
  | succ m ih => simp only [nq]; omega

theorem nq_le {n : Int} (h : 0 ≤ n) : ∀ m, nq n m ≤ n := by
  intro m
  induction m with
  | zero => exact Int.le_refl _
  | succ m ih => have := nq_nonneg h m; simp only [nq]; omega

theorem nq_pow {n : Int} (h : 0 ≤ n) : ∀ m : Nat, nq n m * 10 ^ m ≤ n := by
  intro m
  induction m with
  | zero => simp [nq]
  | succ m ih =>
    have h0 := nq_nonneg h m
    have h1 : nq n (m + 1) * 10 ≤ nq n m := by simp only [nq]; omega
    have h2 : (0 : Int) ≤ 10 ^ m := Int.pow_nonneg (by omega)
    have h3 := Int.mul_le_mul_of_nonneg_right h1 h2
    rw [Int.pow_succ, Int.mul_comm (10 ^ m) 10, ← Int.mul_assoc]
    omega

/-- While something is left, fewer than 18 digits have been taken. -/
theorem nq_few {n : Int} (h : 0 ≤ n) (hn : n ≤ 999999999999999999) {m : Nat} (hp : 0 < nq n m) : m ≤ 17 := by
  rcases Nat.lt_or_ge 17 m with hm | hm
  · exfalso
    have h1 := nq_pow h m
    have h2 : (10 : Int) ^ 18 ≤ 10 ^ m := by
      have := Nat.pow_le_pow_right (n := 10) (by omega) (show 18 ≤ m by omega)
      exact_mod_cast this
    have h3 : (1 : Int) * 10 ^ m ≤ nq n m * 10 ^ m := Int.mul_le_mul_of_nonneg_right (by omega) (Int.pow_nonneg (by omega))
    have h4 : (10 : Int) ^ 18 = 1000000000000000000 := by decide
    omega
  · exact hm

/-- The digit that is taken in round m, as a byte. -/
def dg (n : Int) (m : Nat) : Int := 48 + nq n m % 10

theorem dg_bound {n : Int} (m : Nat) : 48 ≤ dg n m ∧ dg n m ≤ 57 := by unfold dg; omega

/-- The L digits in the order of the text. -/
def txt (n : Int) (L : Nat) (j : Nat) : Int := dg n (L - 1 - j)

theorem txt_digs (n : Int) (L k : Nat) : digs (txt n L) k = true := by
  rw [digs_iff]
  exact fun i _ => dg_bound _

theorem txt_val {n : Int} {L : Nat} (hL : nq n L = 0) : ∀ j, j ≤ L → val (txt n L) j = nq n (L - j) := by
  intro j
  induction j with
  | zero => intro _; simp [val, hL]
  | succ j ih =>
    intro h
    simp only [val, ih (by omega), txt, dg]
    obtain ⟨q, hq⟩ : ∃ q, L - j = q + 1 := ⟨L - j - 1, by omega⟩
    rw [show L - 1 - j = q by omega, show L - (j + 1) = q by omega, hq]
    simp only [nq]
    omega

/-- z zeros ahead of a text. -/
def pad (z : Nat) (g : Nat → Int) (i : Nat) : Int := if i < z then 48 else g (i - z)

theorem pad_digs {g : Nat → Int} {L : Nat} (h : digs g L = true) (z : Nat) : digs (pad z g) (z + L) = true := by
  rw [digs_iff] at h ⊢
  intro i hi
  unfold pad
  by_cases hz : i < z
  · simp [hz]
  · simp only [hz, if_false]; exact h _ (by omega)

theorem pad_zero (g : Nat → Int) (z : Nat) : ∀ k, k ≤ z → val (pad z g) k = 0 := by
  intro k
  induction k with
  | zero => intro _; rfl
  | succ k ih => intro h; simp only [val, ih (by omega), pad, show k < z by omega, if_true]; omega

theorem pad_val (g : Nat → Int) (z : Nat) : ∀ j, val (pad z g) (z + j) = val g j := by
  intro j
  induction j with
  | zero => exact pad_zero g z z (Nat.le_refl _)
  | succ j ih =>
    rw [← Nat.add_assoc]
    simp only [val, ih, pad, show ¬ z + j < z by omega, if_false, show z + j - z = j by omega]

end Go.Proofs.Qxb6604168a
