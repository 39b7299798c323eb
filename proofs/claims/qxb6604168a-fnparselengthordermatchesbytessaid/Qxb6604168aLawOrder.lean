/-
  THE LAW's WALK: FnParseLengthOrderMatchesBytes (8).
-/
import Derived.Test.Qxb6604168aCompare
namespace Go.Proofs.Qxb6604168a
open Go.RowKit

set_option maxHeartbeats 1000000 in
/-- The law's heart: two slices of one length from 1 to 18. -/
theorem law_order_in (a1 a2 : Option Addr) (n c1 c2 : Nat) (f g : Nat → Int) (w : World) (hn1 : 1 ≤ n) (hn : n ≤ 18)
    (hb1 : BytesAt w a1 n f) (hb2 : BytesAt w a2 n g) (hnil1 : a1 = none → n = 0 ∧ c1 = 0) (hnil2 : a2 = none → n = 0 ∧ c2 = 0) :
    Calls Try.prog 8 #[.slice a1 n c1, .slice a2 n c2] w fun e w' => e = .returned (.bool true) ∧ Below w.heap.size w w' := by
  obtain ⟨b, off, rfl, hc⟩ := hb1.2 (by omega)
  obtain ⟨b', off', rfl, hc'⟩ := hb2.2 (by omega)
  have hne : ((n : Int) != (n : Int)) = false := by simp
  go_enter Try.func8, Try.ntmps8
  go_wp2
  go_loop [5] (fun i => ∃ k : Nat, k ≤ n ∧ i = .int .i64 k ∧ digs f k = true ∧ digs g k = true) (fun i => n - (intOf i).toNat)
  case atStart => exact ⟨0, Nat.zero_le _, rfl, rfl, rfl⟩
  case round =>
    obtain ⟨k, hk, rfl, hd, hd'⟩ := hrel
    have HD : Hid (digs f k = true) := hd
    have HD' : Hid (digs g k = true) := hd'
    clear hd hd'
    by_cases hlt : k < n
    · have hck := hc k hlt
      have hck' := hc' k hlt
      have hf1 := (hb1.1 k).1
      have hf2 := (hb1.1 k).2
      have hg1 := (hb2.1 k).1
      have hg2 := (hb2.1 k).2
      clear hc hc' hb1 hb2 hnil1 hnil2
      rcases (show (f k < 48) ∨ (48 ≤ f k ∧ 57 < f k) ∨ (48 ≤ f k ∧ f k ≤ 57) by omega) with h | ⟨h, h2⟩ | ⟨h, h2⟩
      · go_wp2
        go_ret
        exact ⟨rfl, Below.refl _ _⟩
      · have h2' : decide (f k ≤ 57) = false := by simp; omega
        clear h2
        go_wp2
        go_ret
        exact ⟨rfl, Below.refl _ _⟩
      · rcases (show (g k < 48) ∨ (48 ≤ g k ∧ 57 < g k) ∨ (48 ≤ g k ∧ g k ≤ 57) by omega) with h3 | ⟨h3, h4⟩ | ⟨h3, h4⟩
        · go_wp2
          go_ret
          exact ⟨rfl, Below.refl _ _⟩
        · have h4' : decide (g k ≤ 57) = false := by simp; omega
          clear h4
          go_wp2
          go_ret
          exact ⟨rfl, Below.refl _ _⟩
        · go_wp2
          go_round
          case rel => exact ⟨k + 1, by omega, by go_num, by simp [digs, HD.out, h, h2], by simp [digs, HD'.out, h3, h4]⟩
          case measure => simp [intOf]; omega
    · obtain rfl : k = n := by omega
      clear hc hc'
      obtain ⟨hB, hV⟩ := pl_yes (f := f) (n := k) hn1 hn HD.out
      obtain ⟨hB', hV'⟩ := pl_yes (f := g) (n := k) hn1 hn HD'.out
      have HC := cmp_val f g k HD.out HD'.out
      go_wp2_with fail
      refine (clone_any (some ⟨b, off, none⟩) k c1 f w (by omega) (by simp) hb1).mono ?_
      rintro e w1 ⟨a1', rfl, hb1', hbel1⟩
      go_wp2_with fail
      refine (clone_any (some ⟨b', off', none⟩) k c2 g w1 (by omega) (by simp) (hb2.below hbel1)).mono ?_
      rintro e w2 ⟨a2', rfl, hb2', hbel2⟩
      have hb1'' := hb1'.below hbel2
      go_wp2_with fail
      refine (zzparse_any a1' k k f w2 (by unfold maxLen; omega) hb1'').mono ?_
      rintro e w3 ⟨rfl, rfl⟩
      go_wp2_with fail
      refine (zzparse_any a2' k k g w3 (by unfold maxLen; omega) hb2').mono ?_
      rintro e w4 ⟨rfl, rfl⟩
      go_wp2_with fail
      refine (compare_any a1' a2' k k k f g w4 hn1 hn hb1'' hb2').mono ?_
      rintro e w5 ⟨rfl, hbel3⟩
      have HBel : Hid (Below w.heap.size w w5) := Below.chain (Below.chain hbel1 hbel2) hbel3
      clear hbel1 hbel2 hbel3 hb1'' hb2' hb1' hb1 hb2
      rcases HC with ⟨hq, hv⟩ | ⟨hq, hv⟩ | ⟨hq, hv⟩
      · go_wp2
        go_ret
        exact ⟨rfl, HBel.out⟩
      · go_wp2
        go_ret
        exact ⟨rfl, HBel.out⟩
      · go_wp2
        go_ret
        exact ⟨rfl, HBel.out⟩

set_option maxHeartbeats 1000000 in
theorem law_order (a1 a2 : Option Addr) (n1 n2 c1 c2 : Nat) (f g : Nat → Int) (w : World) (hn1 : n1 ≤ maxLen) (hn2 : n2 ≤ maxLen)
    (hb1 : BytesAt w a1 n1 f) (hb2 : BytesAt w a2 n2 g) (hnil1 : a1 = none → n1 = 0 ∧ c1 = 0) (hnil2 : a2 = none → n2 = 0 ∧ c2 = 0) :
    Calls Try.prog 8 #[.slice a1 n1 c1, .slice a2 n2 c2] w fun e w' => e = .returned (.bool true) ∧ Below w.heap.size w w' := by
  unfold maxLen at hn1 hn2
  by_cases h1 : 1048576 < n1
  · go_enter Try.func8, Try.ntmps8
    go_wp2
    go_ret
    exact ⟨rfl, Below.refl _ _⟩
  by_cases h2 : 1048576 < n2
  · go_enter Try.func8, Try.ntmps8
    go_wp2
    go_ret
    exact ⟨rfl, Below.refl _ _⟩
  by_cases h3 : 1048576 < n1 + n2
  · go_enter Try.func8, Try.ntmps8
    go_wp2
    go_ret
    exact ⟨rfl, Below.refl _ _⟩
  by_cases h4 : n1 = n2
  · subst h4
    by_cases h5 : 1 ≤ n1
    · by_cases h6 : n1 ≤ 18
      · exact law_order_in a1 a2 n1 c1 c2 f g w h5 h6 hb1 hb2 hnil1 hnil2
      · have hne : ((n1 : Int) != (n1 : Int)) = false := by simp
        go_enter Try.func8, Try.ntmps8
        go_wp2
        go_ret
        exact ⟨rfl, Below.refl _ _⟩
    · have hne : ((n1 : Int) != (n1 : Int)) = false := by simp
      go_enter Try.func8, Try.ntmps8
      go_wp2
      go_ret
      exact ⟨rfl, Below.refl _ _⟩
  · have hne : ((n1 : Int) != (n2 : Int)) = true := by simp; omega
    go_enter Try.func8, Try.ntmps8
    go_wp2
    go_ret
    exact ⟨rfl, Below.refl _ _⟩
end Go.Proofs.Qxb6604168a
