/-
  THE PLAIN LAW of FnParseLengthSpec: the sum of the digits' values from the right is the value read from the left.
-/
import Derived.Test.Qxb6604168aPlain
namespace Go.Proofs.Qxb6604168a

/-- Ten to the power m. -/
def pw : Nat → Int
  | 0 => 1
  | m + 1 => pw m * 10

/-- The sum over the last m of n digits. -/
def tl (f : Nat → Int) (n : Nat) : Nat → Int
  | 0 => 0
  | m + 1 => tl f n m + (f (n - 1 - m) - 48) * pw m

theorem pw_pos (m : Nat) : 1 ≤ pw m := by
  induction m with
  | zero => simp [pw]
  | succ m ih => simp only [pw]; omega

theorem pw_mono {a b : Nat} (h : a ≤ b) : pw a ≤ pw b := by
  induction h with
  | refl => exact Int.le_refl _
  | step _ ih => simp only [pw]; have := pw_pos a; omega

theorem pw17 {m : Nat} (h : m ≤ 17) : pw m ≤ 100000000000000000 := by
  have := pw_mono h
  have e : pw 17 = 100000000000000000 := by decide
  omega

theorem tl_val (f : Nat → Int) (n : Nat) : ∀ m, m ≤ n → val f n = val f (n - m) * pw m + tl f n m := by
  intro m
  induction m with
  | zero => intro _; simp [pw, tl]
  | succ m ih =>
    intro h
    rw [ih (by omega)]
    obtain ⟨q, hq⟩ : ∃ q, n - m = q + 1 := ⟨n - m - 1, by omega⟩
    have e1 : n - (m + 1) = q := by omega
    have e2 : n - 1 - m = q := by omega
    simp only [tl, pw, e1, e2, hq, val]
    rw [Int.add_mul, Int.mul_assoc, Int.mul_comm 10 (pw m)]
    omega

theorem tl_all (f : Nat → Int) (n : Nat) : tl f n n = val f n := by
  have := tl_val f n n (Nat.le_refl _)
  simp only [Nat.sub_self, val] at this
  omega

theorem tl_bound {f : Nat → Int} {n : Nat} (hd : digs f n = true) : ∀ m, m ≤ n → 0 ≤ tl f n m ∧ tl f n m < pw m := by
  intro m
  induction m with
  | zero => intro _; simp [tl, pw]
  | succ m ih =>
    intro h
    have h1 := ih (by omega)
    have h2 := (digs_iff f n).1 hd (n - 1 - m) (by omega)
    have h3 := pw_pos m
    have h4 : 0 ≤ (f (n - 1 - m) - 48) * pw m := Int.mul_nonneg (by omega) (by omega)
    have h5 : (f (n - 1 - m) - 48) * pw m ≤ 9 * pw m := Int.mul_le_mul_of_nonneg_right (by omega) (by omega)
    simp only [tl, pw]
    omega

/-- The product that a round adds. -/
theorem step_bound {f : Nat → Int} {n q m : Nat} (hd : digs f n = true) (hq : q < n) (hm : m ≤ 17) : 0 ≤ (f q - 48) * pw m ∧ (f q - 48) * pw m ≤ 900000000000000000 := by
  have h2 := (digs_iff f n).1 hd q hq
  have h3 := pw_pos m
  have h6 := pw17 hm
  have h4 : 0 ≤ (f q - 48) * pw m := Int.mul_nonneg (by omega) (by omega)
  have h5 : (f q - 48) * pw m ≤ 9 * pw m := Int.mul_le_mul_of_nonneg_right (by omega) (by omega)
  omega

end Go.Proofs.Qxb6604168a
