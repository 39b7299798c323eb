/-
  THE WALKS of equalFold (27), ZZEqualFold (14), isUpperASCII (15), upperASCII (16), lowerASCII (18), isLowerASCII (19).
-/
import Derived.Test.Qxb6604168aMethod
import Derived.Test.Qxb6604168aPlainFold
namespace Go.Proofs.Qxb6604168a
open Go.RowKit

/-- Byte k of a string, as a number; 0 behind its end. -/
def sb (s : ByteArray) (k : Nat) : Int := if h : k < s.size then ((s[k]'h).toNat : Int) else 0
theorem get_sb (s : ByteArray) : ∀ (n : Nat) (h : n < s.size), ((s[n]'h).toNat : Int) = sb s n := fun n h => by unfold sb; rw [dif_pos h]
theorem sb_bound (s : ByteArray) (k : Nat) : 0 ≤ sb s k ∧ sb s k ≤ 255 := by
  unfold sb
  split
  · have := (s[k]).toNat_lt; omega
  · omega

theorem ret_bool {a b : Bool} (h : a = b) : Ending.returned (.bool a) = .returned (.bool b) := by rw [h]

theorem isUp_t {c : Int} (h : 65 ≤ c ∧ c ≤ 90) : isUp c = true := by simp [isUp, h]
theorem isUp_f {c : Int} (h : ¬ (65 ≤ c ∧ c ≤ 90)) : isUp c = false := by simp [isUp, h]
theorem isLo_t {c : Int} (h : 97 ≤ c ∧ c ≤ 122) : isLo c = true := by simp [isLo, h]
theorem isLo_f {c : Int} (h : ¬ (97 ≤ c ∧ c ≤ 122)) : isLo c = false := by simp [isLo, h]

set_option maxHeartbeats 400000 in
theorem isUpper_any (c : Int) (w : World) : Calls Try.prog 15 #[.int .u8 c] w fun e w' => e = .returned (.bool (isUp c)) ∧ w' = w := by
  rcases (show c < 65 ∨ (65 ≤ c ∧ 90 < c) ∨ (65 ≤ c ∧ c ≤ 90) by omega) with h | ⟨h, h'⟩ | ⟨h, h'⟩
  · have HE : Hid (isUp c = false) := isUp_f (by omega)
    go_enter Try.func15, Try.ntmps15
    go_wp2
    go_ret
    exact ⟨ret_bool HE.out.symm, rfl⟩
  · have HE : Hid (isUp c = false) := isUp_f (by omega)
    have h2 : decide (c ≤ 90) = false := by simp; omega
    go_enter Try.func15, Try.ntmps15
    go_wp2
    go_ret
    exact ⟨ret_bool HE.out.symm, rfl⟩
  · have HE : Hid (isUp c = true) := isUp_t (by omega)
    have h2 : decide (c ≤ 90) = true := by simp; omega
    go_enter Try.func15, Try.ntmps15
    go_wp2
    go_ret
    exact ⟨ret_bool HE.out.symm, rfl⟩

set_option maxHeartbeats 400000 in
theorem isLower_any (c : Int) (w : World) : Calls Try.prog 19 #[.int .u8 c] w fun e w' => e = .returned (.bool (isLo c)) ∧ w' = w := by
  rcases (show c < 97 ∨ (97 ≤ c ∧ 122 < c) ∨ (97 ≤ c ∧ c ≤ 122) by omega) with h | ⟨h, h'⟩ | ⟨h, h'⟩
  · have HE : Hid (isLo c = false) := isLo_f (by omega)
    go_enter Try.func19, Try.ntmps19
    go_wp2
    go_ret
    exact ⟨ret_bool HE.out.symm, rfl⟩
  · have HE : Hid (isLo c = false) := isLo_f (by omega)
    have h2 : decide (c ≤ 122) = false := by simp; omega
    go_enter Try.func19, Try.ntmps19
    go_wp2
    go_ret
    exact ⟨ret_bool HE.out.symm, rfl⟩
  · have HE : Hid (isLo c = true) := isLo_t (by omega)
    have h2 : decide (c ≤ 122) = true := by simp; omega
    go_enter Try.func19, Try.ntmps19
    go_wp2
    go_ret
    exact ⟨ret_bool HE.out.symm, rfl⟩

theorem ret_u8 {a b : Int} (h : a = b) : Ending.returned (.int .u8 a) = .returned (.int .u8 b) := by rw [h]

set_option maxHeartbeats 400000 in
theorem upper_any (c : Int) (w : World) (h0 : 0 ≤ c) (h1 : c ≤ 255) : Calls Try.prog 16 #[.int .u8 c] w fun e w' => e = .returned (.int .u8 (up c)) ∧ w' = w := by
  by_cases h : 97 ≤ c ∧ c ≤ 122
  · have HE : Hid (up c = c - 32) := by show _ = _; simp [up, h]
    have hl := isLo_t h
    obtain ⟨h2, h3⟩ := h
    go_enter Try.func16, Try.ntmps16
    go_wp2_with (go_at_call 19; refine (isLower_any c w).mono ?_; rintro e w' ⟨rfl, rfl⟩)
    go_ret
    exact ⟨ret_u8 HE.out.symm, rfl⟩
  · have HE : Hid (up c = c) := by show _ = _; simp [up, h]
    have hl := isLo_f h
    clear h
    go_enter Try.func16, Try.ntmps16
    go_wp2_with (go_at_call 19; refine (isLower_any c w).mono ?_; rintro e w' ⟨rfl, rfl⟩)
    go_ret
    exact ⟨ret_u8 HE.out.symm, rfl⟩

set_option maxHeartbeats 400000 in
theorem lower_any (c : Int) (w : World) (h0 : 0 ≤ c) (h1 : c ≤ 255) : Calls Try.prog 18 #[.int .u8 c] w fun e w' => e = .returned (.int .u8 (lo c)) ∧ w' = w := by
  by_cases h : 65 ≤ c ∧ c ≤ 90
  · have HE : Hid (lo c = c + 32) := by show _ = _; simp [lo, h]
    have hl := isUp_t h
    obtain ⟨h2, h3⟩ := h
    go_enter Try.func18, Try.ntmps18
    go_wp2_with (go_at_call 15; refine (isUpper_any c w).mono ?_; rintro e w' ⟨rfl, rfl⟩)
    go_ret
    exact ⟨ret_u8 HE.out.symm, rfl⟩
  · have HE : Hid (lo c = c) := by show _ = _; simp [lo, h]
    have hl := isUp_f h
    clear h
    go_enter Try.func18, Try.ntmps18
    go_wp2_with (go_at_call 15; refine (isUpper_any c w).mono ?_; rintro e w' ⟨rfl, rfl⟩)
    go_ret
    exact ⟨ret_u8 HE.out.symm, rfl⟩

set_option maxHeartbeats 400000 in
theorem fold_ne (a : Option Addr) (n c : Nat) (s : ByteArray) (w : World) (_hn : n ≤ 1048576) (_hs : s.size ≤ 1048576) (hne : n ≠ s.size) :
    Calls Try.prog 27 #[.slice a n c, .string s] w fun e w' => e = .returned (.bool false) ∧ w' = w := by
  have h : ((n : Int) != (s.size : Int)) = true := by simp; omega
  go_enter Try.func27, Try.ntmps27
  go_wp2
  go_ret
  exact ⟨rfl, rfl⟩

set_option maxHeartbeats 1000000 in
theorem fold_eq (a : Option Addr) (n c : Nat) (f : Nat → Int) (s : ByteArray) (w : World) (hn : n ≤ 1048576) (hs : s.size = n) (hb : BytesAt w a n f) :
    Calls Try.prog 27 #[.slice a n c, .string s] w fun e w' => e = .returned (.bool (foldEq f (sb s) n)) ∧ w' = w := by
  have hsb := get_sb s
  go_enter Try.func27, Try.ntmps27
  go_wp2
  go_loop [14] (fun i => ∃ k : Nat, k ≤ n ∧ i = .int .i64 k ∧ foldEq f (sb s) k = true) (fun i => n - (intOf i).toNat)
  case atStart => exact ⟨0, Nat.zero_le _, rfl, rfl⟩
  case round =>
    obtain ⟨k, hk, rfl, hd⟩ := hrel
    have HD : Hid (foldEq f (sb s) k = true) := hd
    clear hd
    by_cases hlt : k < n
    · obtain ⟨b, off, rfl, hc⟩ := hb.2 (by omega)
      have hck := hc k hlt
      have hf1 := (hb.1 k).1
      have hf2 := (hb.1 k).2
      have hg1 := (sb_bound s k).1
      have hg2 := (sb_bound s k).2
      have hks : k < s.size := by omega
      clear hc hb
      by_cases hq : lo (f k) = sb s k
      · have HN : Hid (foldEq f (sb s) (k + 1) = true) := by show _ = _; simp [foldEq, HD.out, hq]
        rcases (show f k < 65 ∨ (65 ≤ f k ∧ 90 < f k) ∨ (65 ≤ f k ∧ f k ≤ 90) by omega) with h | ⟨h, h'⟩ | ⟨h, h'⟩
        · have hne : (f k != sb s k) = false := by rw [← hq]; simp [lo]; omega
          clear hq
          go_wp2
          go_round
          case rel => exact ⟨k + 1, by omega, by go_num, HN.out⟩
          case measure => simp [intOf]; omega
        · have hne : (f k != sb s k) = false := by rw [← hq]; simp [lo]; omega
          have h2 : decide (f k ≤ 90) = false := by simp; omega
          clear hq
          go_wp2
          go_round
          case rel => exact ⟨k + 1, by omega, by go_num, HN.out⟩
          case measure => simp [intOf]; omega
        · have hne : (f k + 32 != sb s k) = false := by rw [← hq]; simp [lo]; omega
          have h2 : decide (f k ≤ 90) = true := by simp; omega
          clear hq
          go_wp2
          go_round
          case rel => exact ⟨k + 1, by omega, by go_num, HN.out⟩
          case measure => simp [intOf]; omega
      · have HN : Hid (foldEq f (sb s) n = false) := fold_stop hlt hq
        rcases (show f k < 65 ∨ (65 ≤ f k ∧ 90 < f k) ∨ (65 ≤ f k ∧ f k ≤ 90) by omega) with h | ⟨h, h'⟩ | ⟨h, h'⟩
        · have hne : (f k != sb s k) = true := by simp [lo] at hq ⊢; omega
          clear hq
          go_wp2
          go_ret
          exact ⟨ret_bool HN.out.symm, rfl⟩
        · have hne : (f k != sb s k) = true := by simp [lo] at hq ⊢; omega
          have h2 : decide (f k ≤ 90) = false := by simp; omega
          clear hq
          go_wp2
          go_ret
          exact ⟨ret_bool HN.out.symm, rfl⟩
        · have hne : (f k + 32 != sb s k) = true := by simp [lo] at hq ⊢; omega
          have h2 : decide (f k ≤ 90) = true := by simp; omega
          clear hq
          go_wp2
          go_ret
          exact ⟨ret_bool HN.out.symm, rfl⟩
    · obtain rfl : k = n := by omega
      go_wp2
      go_ret
      exact ⟨ret_bool HD.out.symm, rfl⟩

set_option maxHeartbeats 400000 in
theorem zzfold_ne (a : Option Addr) (n c : Nat) (s : ByteArray) (w : World) (hn : n ≤ 1048576) (hs : s.size ≤ 1048576) (hne : n ≠ s.size) :
    Calls Try.prog 14 #[.slice a n c, .string s] w fun e w' => e = .returned (.bool false) ∧ w' = w := by
  go_enter Try.func14, Try.ntmps14
  go_wp2_with (go_at_call 27; refine (fold_ne a n c s w hn hs hne).mono ?_; rintro e w' ⟨rfl, rfl⟩)
  go_ret
  exact ⟨rfl, rfl⟩

set_option maxHeartbeats 400000 in
theorem zzfold_eq (a : Option Addr) (n c : Nat) (f : Nat → Int) (s : ByteArray) (w : World) (hn : n ≤ 1048576) (hs : s.size = n) (hb : BytesAt w a n f) :
    Calls Try.prog 14 #[.slice a n c, .string s] w fun e w' => e = .returned (.bool (foldEq f (sb s) n)) ∧ w' = w := by
  have HS : Hid (s.size = n) := hs
  clear hs
  go_enter Try.func14, Try.ntmps14
  go_wp2_with (go_at_call 27; refine (fold_eq a n c f s w hn HS.out hb).mono ?_; rintro e w' ⟨rfl, rfl⟩)
  go_ret
  exact ⟨rfl, rfl⟩
end Go.Proofs.Qxb6604168a
