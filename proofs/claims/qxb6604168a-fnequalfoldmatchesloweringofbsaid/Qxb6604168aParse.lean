/-
  THE WALK of parseLength (28) and of the shim ZZParseLength (21).
-/
import Derived.Test.Qxb6604168aRows
import Derived.Test.Qxb6604168aPlain
import Derived.WalkKit
import Derived.WalkSpells
import Derived.WalkLawsBesides
namespace Go.Proofs.Qxb6604168a
open Go.RowKit

/-- A slice of bytes: n bytes, the i-th is 'f i'. Of a slice of no byte nothing is said of its address. -/
def BytesAt (w : World) (a : Option Addr) (n : Nat) (f : Nat → Int) : Prop :=
  (∀ i, 0 ≤ f i ∧ f i ≤ 255) ∧ (0 < n → ∃ b off, a = some ⟨b, off, none⟩ ∧ ∀ i, i < n → w.cell? ⟨b, off + i, none⟩ = some (.int .u8 (f i)))

theorem ret_pair {a b : Int} {p q : Bool} (h : a = b) (g : p = q) : Ending.returned (.tuple #[.int .i64 a, .bool p]) = .returned (.tuple #[.int .i64 b, .bool q]) := by rw [h, g]

set_option maxHeartbeats 400000 in
theorem parse_any (a : Option Addr) (n c : Nat) (f : Nat → Int) (w : World) (hn : n ≤ maxLen) (hb : BytesAt w a n f) :
    Calls Try.prog 28 #[.slice a n c] w fun e w' => e = .returned (.tuple #[.int .i64 (plV f n), .bool (plB f n)]) ∧ w' = w := by
  unfold maxLen at hn
  obtain ⟨hf, ha⟩ := hb
  by_cases h0 : n = 0
  · subst h0
    go_enter Try.func28, Try.ntmps28
    go_wp2
    go_ret2
    exact ⟨ret_pair (pl_no (by simp)).2.symm (pl_no (by simp)).1.symm, rfl⟩
  · have h0' : ((n : Int) == 0) = false := by simp; omega
    by_cases h18 : 18 < n
    · go_enter Try.func28, Try.ntmps28
      go_wp2
      go_ret2
      exact ⟨ret_pair (pl_no (.inl (by omega))).2.symm (pl_no (.inl (by omega))).1.symm, rfl⟩
    · obtain ⟨b, off, rfl, hc⟩ := ha (by omega)
      go_enter Try.func28, Try.ntmps28
      go_wp2
      go_loop [4, 17] (fun v i => ∃ k : Nat, k ≤ n ∧ i = .int .i64 k ∧ v = .int .i64 (val f k) ∧ digs f k = true) (fun _ i => n - (intOf i).toNat)
      case atStart => exact ⟨0, Nat.zero_le _, rfl, rfl, rfl⟩
      case round =>
        obtain ⟨k, hk, rfl, rfl, hd⟩ := hrel
        have hv0 := val_nonneg f k hd
        by_cases hlt : k < n
        · have hv1 := val_lt17 f k hd (by omega)
          have hck := hc k hlt
          have hf1 := (hf k).1
          have hf2 := (hf k).2
          have HV : Hid (val f (k + 1) = val f k * 10 + (f k - 48)) := rfl
          have HD : Hid (digs f k = true) := hd
          have HF : Hid (∀ i, 0 ≤ f i ∧ f i ≤ 255) := hf
          clear hd hf hc ha
          by_cases hg : 48 ≤ f k ∧ f k ≤ 57
          · obtain ⟨hg1, hg2⟩ := hg
            go_wp2
            go_round
            case rel => exact ⟨k + 1, by omega, by go_num, by rw [HV.out], by simp [digs, HD.out, hg1, hg2]⟩
            case measure => simp [intOf]; omega
          · have hN := pl_no (f := f) (n := n) (.inr (digs_stop hlt hg))
            have H1 : Hid (plB f n = false ∧ plV f n = 0) := hN
            clear hN
            by_cases hg1 : 48 ≤ f k
            · have hg2 : decide (f k ≤ 57) = false := by simp; omega
              clear hg
              go_wp2
              go_ret2
              exact ⟨ret_pair H1.out.2.symm H1.out.1.symm, rfl⟩
            · clear hg
              go_wp2
              go_ret2
              exact ⟨ret_pair H1.out.2.symm H1.out.1.symm, rfl⟩
        · obtain rfl : k = n := by omega
          have H1 : Hid (plB f k = true ∧ plV f k = val f k) := pl_yes (by omega) (by omega) hd
          clear hd hf hc ha
          go_wp2
          go_ret2
          exact ⟨ret_pair H1.out.2.symm H1.out.1.symm, rfl⟩

set_option maxHeartbeats 400000 in
theorem zzparse_any (a : Option Addr) (n c : Nat) (f : Nat → Int) (w : World) (hn : n ≤ maxLen) (hb : BytesAt w a n f) :
    Calls Try.prog 21 #[.slice a n c] w fun e w' => e = .returned (.tuple #[.int .i64 (plV f n), .bool (plB f n)]) ∧ w' = w := by
  go_enter Try.func21, Try.ntmps21
  go_wp2_with (go_at_call 28; refine (parse_any a n c f w hn hb).mono ?_; rintro e w' ⟨rfl, rfl⟩)
  go_ret2
  exact ⟨rfl, rfl⟩
end Go.Proofs.Qxb6604168a
