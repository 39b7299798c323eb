/-
  THE PLAIN LAW: unescape undoes the escape.
-/
import Derived.Test.Qxb6604225aDoorPlainRun
namespace Go.Proofs.Qxb6604225aDoor

/-- A byte's escape. -/
def escB (c : Int) : List Int :=
  if c = 32 then [92, 48, 52, 48] else if c = 9 then [92, 48, 49, 49] else if c = 10 then [92, 48, 49, 50] else if c = 92 then [92, 49, 51, 52] else [c]

/-- The escape of the first n bytes. -/
def escTo (g : Nat → Int) : Nat → List Int
  | 0 => []
  | n + 1 => escTo g n ++ escB (g n)

theorem escB_len (c : Int) : 1 ≤ (escB c).length ∧ (escB c).length ≤ 4 := by
  unfold escB
  split
  · decide
  · split
    · decide
    · split
      · decide
      · split
        · decide
        · simp

theorem escTo_len (g : Nat → Int) (n : Nat) : n ≤ (escTo g n).length ∧ (escTo g n).length ≤ 4 * n := by
  induction n with
  | zero => simp [escTo]
  | succ n ih =>
    have := escB_len (g n)
    simp only [escTo, List.length_append]
    omega

/-- The first j bytes' escape stands at the head. -/
theorem escTo_head (g : Nat → Int) (j : Nat) : ∀ n, j ≤ n → ∃ r, escTo g n = escTo g j ++ r := by
  intro n hn
  induction hn with
  | refl => exact ⟨[], by simp⟩
  | step _ ih =>
    obtain ⟨r, hr⟩ := ih
    exact ⟨r ++ escB (g _), by simp only [escTo]; rw [hr, List.append_assoc]⟩

/-- Byte k of the escape of n bytes; 0 behind its end. -/
def eb (g : Nat → Int) (n k : Nat) : Int := (escTo g n).getD k 0

theorem eb_at (g : Nat → Int) {n j : Nat} (hj : j < n) (i : Nat) (hi : i < (escB (g j)).length) : eb g n ((escTo g j).length + i) = (escB (g j)).getD i 0 := by
  obtain ⟨r, hr⟩ := escTo_head g (j + 1) n hj
  simp only [escTo] at hr
  unfold eb
  rw [hr]
  simp only [List.getD, List.append_assoc]
  rw [List.getElem?_append_right (by omega), Nat.add_sub_cancel_left, List.getElem?_append_left hi]

theorem esc_room (g : Nat → Int) {n j : Nat} (hj : j < n) : (escTo g j).length + (escB (g j)).length ≤ (escTo g n).length := by
  obtain ⟨r, hr⟩ := escTo_head g (j + 1) n hj
  rw [hr]
  simp only [escTo, List.length_append]
  omega

/-- One step at the place behind the first j bytes' escape gives byte j. -/
theorem step_inv (g : Nat → Int) {n j : Nat} (hj : j < n) :
    stV (eb g n) (escTo g n).length (escTo g j).length = g j ∧ stK (eb g n) (escTo g n).length (escTo g j).length = (escTo g (j + 1)).length := by
  have hroom := esc_room g hj
  have hat := eb_at g hj
  have hlen : (escTo g (j + 1)).length = (escTo g j).length + (escB (g j)).length := by simp only [escTo, List.length_append]
  rw [hlen]
  generalize (escTo g j).length = k at hroom hat
  generalize (escTo g n).length = N at hroom
  generalize hc : g j = c at hroom hat
  by_cases hs : c = 32 ∨ c = 9 ∨ c = 10 ∨ c = 92
  · have key : ∃ a b d : Int, escB c = [92, a, b, d] ∧ (48 ≤ a ∧ a ≤ 55) ∧ (48 ≤ b ∧ b ≤ 55) ∧ (48 ≤ d ∧ d ≤ 55) ∧ ((a - 48) * 8 + (b - 48)) * 8 + (d - 48) = c ∧ c ≤ 255 := by
      rcases hs with rfl | rfl | rfl | rfl
      · exact ⟨48, 52, 48, rfl, by omega, by omega, by omega, by omega, by omega⟩
      · exact ⟨48, 49, 49, rfl, by omega, by omega, by omega, by omega, by omega⟩
      · exact ⟨48, 49, 50, rfl, by omega, by omega, by omega, by omega, by omega⟩
      · exact ⟨49, 51, 52, rfl, by omega, by omega, by omega, by omega, by omega⟩
    obtain ⟨a, b, d, he, ha, hb, hd, hv, hcc⟩ := key
    rw [he] at hroom hat ⊢
    simp only [List.length_cons, List.length_nil] at hroom hat ⊢
    have e0 : eb g n k = 92 := by simpa using hat 0 (by omega)
    have e1 : eb g n (k + 1) = a := by simpa using hat 1 (by omega)
    have e2 : eb g n (k + 2) = b := by simpa using hat 2 (by omega)
    have e3 : eb g n (k + 3) = d := by simpa using hat 3 (by omega)
    have t0 : tail3 (eb g n) k 0 = a := e1
    have t1 : tail3 (eb g n) k 1 = b := e2
    have t2 : tail3 (eb g n) k 2 = d := e3
    have hV : v8 (tail3 (eb g n) k) 3 = c := by
      simp only [v8, t0, t1, t2]
      omega
    have hE : isEsc (eb g n) N k = true := by
      simp only [isEsc, ok8, octs, t0, t1, t2, hV, Bool.and_eq_true, decide_eq_true_eq]
      exact ⟨⟨e0, by omega⟩, ⟨⟨⟨trivial, ha⟩, hb⟩, hd⟩, hcc⟩
    exact ⟨by simp [stV, hE, hV], by simp [stK, hE]⟩
  · have he : escB c = [c] := by
      unfold escB
      rw [if_neg (by omega), if_neg (by omega), if_neg (by omega), if_neg (by omega)]
    rw [he] at hroom hat ⊢
    simp only [List.length_cons, List.length_nil] at hroom hat ⊢
    have e0 : eb g n k = c := by simpa using hat 0 (by omega)
    have hE : isEsc (eb g n) N k = false := by
      have : ¬ c = 92 := by omega
      simp [isEsc, e0, this]
    exact ⟨by simp [stV, hE, e0], by simp [stK, hE]⟩

theorem run_inv (g : Nat → Int) (n : Nat) : ∀ j, j ≤ n → run (eb g n) (escTo g n).length j = ((escTo g j).length, (List.range j).map g) := by
  intro j
  induction j with
  | zero => intro _; simp [run, escTo]
  | succ j ih =>
    intro h
    have h1 := ih (by omega)
    have hlt : (escTo g j).length < (escTo g n).length := by
      have := esc_room g (show j < n by omega)
      have := escB_len (g j)
      omega
    rw [run_step h1 hlt, (step_inv g (show j < n by omega)).1, (step_inv g (show j < n by omega)).2, List.range_succ, List.map_append, List.map_cons, List.map_nil]

theorem run_more (g : Nat → Int) (n : Nat) : ∀ m, run (eb g n) (escTo g n).length (n + m) = ((escTo g n).length, (List.range n).map g) := by
  intro m
  induction m with
  | zero => exact run_inv g n n (Nat.le_refl _)
  | succ m ih =>
    rw [← Nat.add_assoc]
    simp only [run, ih, Nat.lt_irrefl, if_false]

/-- Where the run has come to the end of the text, it has written the bytes that were escaped. -/
theorem run_end (g : Nat → Int) (n j : Nat) (h : (run (eb g n) (escTo g n).length j).1 = (escTo g n).length) : (run (eb g n) (escTo g n).length j).2 = (List.range n).map g := by
  rcases Nat.lt_or_ge j n with hj | hj
  · exfalso
    rw [run_inv g n j (by omega)] at h
    have h1 := esc_room g hj
    have h2 := escB_len (g j)
    simp only at h
    omega
  · obtain ⟨m, rfl⟩ : ∃ m, j = n + m := ⟨j - n, by omega⟩
    rw [run_more]

end Go.Proofs.Qxb6604225aDoor
