/-
  THE LAW's WALK: FnEqualFoldSpec (4).
-/
import Derived.Test.Qxb6604168aFold
namespace Go.Proofs.Qxb6604168a
open Go.RowKit

theorem noCap_mono (g : Nat → Int) {k : Nat} (h : noCap g k = false) : ∀ n, k ≤ n → noCap g n = false := by
  intro n hn
  induction hn with
  | refl => exact h
  | step _ ih => simp [noCap, ih]

theorem upEq_mono (f g : Nat → Int) {k : Nat} (h : upEq f g k = false) : ∀ n, k ≤ n → upEq f g n = false := by
  intro n hn
  induction hn with
  | refl => exact h
  | step _ ih => simp [upEq, ih]

set_option maxHeartbeats 1000000 in
theorem law_fold_ne (a : Option Addr) (n c : Nat) (f : Nat → Int) (s : ByteArray) (w : World) (hn : n + s.size ≤ 1048576) (hne : n ≠ s.size) (hb : BytesAt w a n f) (hnil : a = none → n = 0 ∧ c = 0) :
    Calls Try.prog 4 #[.slice a n c, .string s] w fun e w' => e = .returned (.bool true) ∧ Below w.heap.size w w' := by
  have h : ((n : Int) == (s.size : Int)) = false := by simp; omega
  have HN : Hid (n ≠ s.size) := hne
  clear hne
  go_enter Try.func4, Try.ntmps4
  go_wp2_with (first | (go_at_call 10; refine (clone_any a n c f w (by omega) hnil hb).mono ?_; rintro e w1 ⟨a1, rfl, hb1, hbel⟩) | (go_at_call 13; go_in))
  refine (zzfold_ne a1 n n s w1 (by omega) (by omega) HN.out).mono ?_
  rintro e w2 ⟨rfl, rfl⟩
  clear hb hnil hb1
  go_wp2
  refine wp_loop_rounds 1 ?_
  rw [rounds_succ]
  go_wp2
  all_goals
    refine wp_loop_rounds 1 ?_
    rw [rounds_succ]
    go_wp2
  all_goals
    go_ret
    exact ⟨rfl, hbel⟩

set_option maxHeartbeats 1000000 in
theorem law_fold_eq (a : Option Addr) (n c : Nat) (f : Nat → Int) (s : ByteArray) (w : World) (hn : n + s.size ≤ 1048576) (hs : s.size = n) (hb : BytesAt w a n f) (hnil : a = none → n = 0 ∧ c = 0) :
    Calls Try.prog 4 #[.slice a n c, .string s] w fun e w' => e = .returned (.bool true) ∧ Below w.heap.size w w' := by
  have hsb := get_sb s
  have HS : Hid (s.size = n) := hs
  have h : ((n : Int) == (n : Int)) = true := by simp
  go_enter Try.func4, Try.ntmps4
  go_wp2_with (first | (go_at_call 10; refine (clone_any a n c f w (by omega) hnil hb).mono ?_; rintro e w1 ⟨a1, rfl, hb1, hbel⟩) | (go_at_call 13; go_in))
  refine (zzfold_eq a1 n n f s w1 (by omega) HS.out hb1).mono ?_
  rintro e w2 ⟨rfl, rfl⟩
  clear hb hnil
  go_wp2
  go_loop [6, 7] (fun v i => ∃ k : Nat, k ≤ n ∧ i = .int .i64 k ∧ v = .bool (noCap (sb s) k)) (fun _ i => n - (intOf i).toNat)
  case atStart => exact ⟨0, Nat.zero_le _, rfl, rfl⟩
  case round =>
    obtain ⟨k, hk, rfl, rfl⟩ := hrel
    cases hd : noCap (sb s) k with
    | false =>
      have hF : foldEq f (sb s) n = false := by rw [fold_law, noCap_mono (sb s) hd n hk]; rfl
      by_cases hlt : k < n
      · go_wp2
        refine wp_loop_rounds 1 ?_
        rw [rounds_succ]
        go_wp2
        all_goals
          go_ret
          exact ⟨rfl, hbel⟩
      · have hlt' : decide ((k : Int) < (n : Int)) = false := by simp; omega
        go_wp2
        refine wp_loop_rounds 1 ?_
        rw [rounds_succ]
        go_wp2
        all_goals
          go_ret
          exact ⟨rfl, hbel⟩
    | true =>
      by_cases hlt : k < n
      · have hks : k < s.size := by omega
        have HD : Hid (noCap (sb s) k = true) := hd
        clear hb1
        cases hu : isUp (sb s k) with
        | false =>
          have HN : Hid (noCap (sb s) (k + 1) = true) := by show _ = _; simp [noCap, hd, hu]
          go_wp2_with (go_at_call 15; refine (isUpper_any (sb s k) w2).mono ?_; rintro e w' ⟨rfl, rfl⟩)
          go_round
          case rel => exact ⟨k + 1, by omega, by go_num, by rw [HN.out]⟩
          case measure => simp [intOf]; omega
        | true =>
          have HN : Hid (noCap (sb s) (k + 1) = false) := by show _ = _; simp [noCap, hu]
          go_wp2_with (go_at_call 15; refine (isUpper_any (sb s k) w2).mono ?_; rintro e w' ⟨rfl, rfl⟩)
          go_round
          case rel => exact ⟨k + 1, by omega, by go_num, by rw [HN.out]⟩
          case measure => simp [intOf]; omega
      · obtain rfl : k = n := by omega
        have hlt' : decide ((k : Int) < (k : Int)) = false := by simp
        have HF : Hid (foldEq f (sb s) k = upEq f (sb s) k) := by show _ = _; rw [fold_law, hd]; simp
        go_wp2
        go_loopw [6, 8] (fun v i wr => ∃ j : Nat, j ≤ k ∧ i = .int .i64 j ∧ v = .bool (upEq f (sb s) j) ∧ Below w2.heap.size w2 wr) (fun _ i _ => k - (intOf i).toNat)
        case atStart => exact ⟨0, Nat.zero_le _, rfl, rfl, Below.refl _ _⟩
        case round =>
          obtain ⟨j, hj, rfl, rfl, hbel2⟩ := hrel
          have HBel : Hid (Below w.heap.size w wr) := Below.chain hbel hbel2
          cases hd2 : upEq f (sb s) j with
          | false =>
            have hF : foldEq f (sb s) k = false := by rw [HF.out, upEq_mono f (sb s) hd2 k hj]
            by_cases hlt2 : j < k
            · go_wp2
              go_ret
              exact ⟨rfl, HBel.out⟩
            · have hlt3 : decide ((j : Int) < (k : Int)) = false := by simp; omega
              go_wp2
              go_ret
              exact ⟨rfl, HBel.out⟩
          | true =>
            by_cases hlt2 : j < k
            · obtain ⟨b, off, rfl, hc⟩ := hb1.2 (by omega)
              have hcj := hc j hlt2
              have hcj' : wr.cell? ⟨b, off + j, none⟩ = some (.int .u8 (f j)) := (hbel2.cell (p := ⟨b, off + j, none⟩) (World.block_lt_of_cell? w2 _ hcj)).trans hcj
              have hf1 := (hb1.1 j).1
              have hf2 := (hb1.1 j).2
              have hg1 := (sb_bound s j).1
              have hg2 := (sb_bound s j).2
              have hks : j < s.size := by omega
              have hjk : (j : Int) < (k : Int) := by omega
              have HD2 : Hid (upEq f (sb s) j = true) := hd2
              have HB2 : Hid (Below w2.heap.size w2 wr) := hbel2
              clear hc hcj hb1 hbel2
              by_cases hq : up (f j) = up (sb s j)
              · have hne : (up (f j) != up (sb s j)) = false := by simp [hq]
                have HN : Hid (upEq f (sb s) (j + 1) = true) := by show _ = _; simp [upEq, hd2, hq]
                clear hq
                go_wp2_with fail
                go_quiet ((go_at_call 16; exact Calls.quiet_of_same (upper_any _ _ (by assumption) (by assumption))))
                go_wp2
                go_roundw
                case rel => exact ⟨j + 1, by omega, by go_num, by rw [HN.out], below_drewN HB2.out _⟩
                case measure => simp [intOf]; omega
              · have hne : (up (f j) != up (sb s j)) = true := by simp [hq]
                have HN : Hid (upEq f (sb s) (j + 1) = false) := by show _ = _; simp [upEq, hq]
                clear hq
                go_wp2_with fail
                go_quiet ((go_at_call 16; exact Calls.quiet_of_same (upper_any _ _ (by assumption) (by assumption))))
                go_wp2
                go_roundw
                case rel => exact ⟨j + 1, by omega, by go_num, by rw [HN.out], below_drewN HB2.out _⟩
                case measure => simp [intOf]; omega
            · obtain rfl : j = k := by omega
              have hlt3 : decide ((j : Int) < (j : Int)) = false := by simp
              have hF : foldEq f (sb s) j = true := by rw [HF.out, hd2]
              go_wp2
              go_ret
              exact ⟨rfl, HBel.out⟩

set_option maxHeartbeats 1000000 in
theorem law_fold (a : Option Addr) (n c : Nat) (f : Nat → Int) (s : ByteArray) (w : World) (hn : n ≤ maxLen) (hs : s.size ≤ maxLen) (hb : BytesAt w a n f) (hnil : a = none → n = 0 ∧ c = 0) :
    Calls Try.prog 4 #[.slice a n c, .string s] w fun e w' => e = .returned (.bool true) ∧ Below w.heap.size w w' := by
  unfold maxLen at hn hs
  by_cases h1 : 1048576 < n
  · go_enter Try.func4, Try.ntmps4
    go_wp2
    go_ret
    exact ⟨rfl, Below.refl _ _⟩
  by_cases h2 : 1048576 < s.size
  · go_enter Try.func4, Try.ntmps4
    go_wp2
    go_ret
    exact ⟨rfl, Below.refl _ _⟩
  by_cases h3 : 1048576 < n + s.size
  · go_enter Try.func4, Try.ntmps4
    go_wp2
    go_ret
    exact ⟨rfl, Below.refl _ _⟩
  by_cases h4 : n = s.size
  · exact law_fold_eq a n c f s w (by omega) h4.symm hb hnil
  · exact law_fold_ne a n c f s w (by omega) h4 hb hnil
end Go.Proofs.Qxb6604168a
