/-
  THE LAW's WALK: FnParseLengthSpec (6).
-/
import Derived.Test.Qxb6604168aClone
import Derived.Test.Qxb6604168aPlainSum
namespace Go.Proofs.Qxb6604168a
open Go.RowKit

set_option maxHeartbeats 400000 in
theorem law_spec (a : Option Addr) (n c : Nat) (f : Nat → Int) (w : World) (hn : n ≤ maxLen) (hb : BytesAt w a n f) (hnil : a = none → n = 0 ∧ c = 0) :
    Calls Try.prog 6 #[.slice a n c] w fun e w' => e = .returned (.bool true) ∧ Below w.heap.size w w' := by
  unfold maxLen at hn
  by_cases hbig : 1048576 < n
  · go_enter Try.func6, Try.ntmps6
    go_wp2
    go_ret
    exact ⟨rfl, Below.refl _ _⟩
  · by_cases hsz : 1 ≤ n ∧ n ≤ 18
    · obtain ⟨hs1, hs2⟩ := hsz
      have hd18 : decide ((n : Int) ≤ 18) = true := by simp; omega
      go_enter Try.func6, Try.ntmps6
      go_wp2_with (first | (go_at_call 10; refine (clone_any a n c f w (by omega) hnil hb).mono ?_; rintro e w1 ⟨a1, rfl, hb1, hbel⟩) | (go_at_call 20; go_in))
      refine (zzparse_any a1 n n f w1 (by unfold maxLen; omega) hb1).mono ?_
      rintro e w2 ⟨rfl, rfl⟩
      clear hb hnil
      go_wp2
      go_loop [5, 6] (fun v i => ∃ k : Nat, k ≤ n ∧ i = .int .i64 k ∧ v = .bool (digs f k)) (fun _ i => n - (intOf i).toNat)
      case atStart => exact ⟨0, Nat.zero_le _, rfl, rfl⟩
      case round =>
        obtain ⟨k, hk, rfl, rfl⟩ := hrel
        obtain ⟨b, off, rfl, hc⟩ := hb1.2 (by omega)
        have HB : Hid (BytesAt w2 (some ⟨b, off, none⟩) n f) := hb1
        have hf := hb1.1
        clear hb1
        cases hd : digs f k with
        | false =>
          have hdn : digs f n = false := by
            cases h : digs f n with
            | false => rfl
            | true => rw [digs_mono f k n hk h] at hd; exact hd
          obtain ⟨hB, hV⟩ := pl_no (f := f) (n := n) (.inr hdn)
          clear hc hf hdn
          by_cases hlt : k < n
          · go_wp2
            go_ret
            exact ⟨rfl, hbel⟩
          · have hlt' : decide ((k : Int) < (n : Int)) = false := by simp; omega
            go_wp2
            go_ret
            exact ⟨rfl, hbel⟩
        | true =>
          by_cases hlt : k < n
          · have hck := hc k hlt
            have hf1 := (hf k).1
            have hf2 := (hf k).2
            have HD : Hid (digs f k = true) := hd
            clear hf hc
            by_cases hg : 48 ≤ f k ∧ f k ≤ 57
            · obtain ⟨hg1, hg2⟩ := hg
              go_wp2
              go_round
              case rel => exact ⟨k + 1, by omega, by go_num, by simp [digs, HD.out, hg1, hg2]⟩
              case measure => simp [intOf]; omega
            · have HN : Hid (digs f (k + 1) = false) := digs_stop (Nat.lt_succ_self k) hg
              by_cases hg1 : 48 ≤ f k
              · have hg2 : decide (f k ≤ 57) = false := by simp; omega
                clear hg
                go_wp2
                go_round
                case rel => exact ⟨k + 1, by omega, by go_num, by rw [HN.out]⟩
                case measure => simp [intOf]; omega
              · clear hg
                go_wp2
                go_round
                case rel => exact ⟨k + 1, by omega, by go_num, by rw [HN.out]⟩
                case measure => simp [intOf]; omega
          · obtain rfl : k = n := by omega
            have hlt' : decide ((k : Int) < (k : Int)) = false := by simp
            obtain ⟨hB, hV⟩ := pl_yes (f := f) (n := k) hs1 hs2 hd
            have HD : Hid (digs f k = true) := hd
            have HV : Hid (plV f k = val f k) := hV
            have HF : Hid (∀ i, 0 ≤ f i ∧ f i ≤ 255) := hf
            have HC : Hid (∀ i, i < k → w2.cell? ⟨b, off + i, none⟩ = some (.int .u8 (f i))) := hc
            clear hV hf hc
            go_wp2
            go_loop [7, 8, 9] (fun v p i => ∃ (x : Int) (j : Nat), j ≤ k ∧ x = (j : Int) - 1 ∧ i = .int .i64 x ∧ v = .int .i64 (tl f k (k - j)) ∧ p = .int .i64 (pw (k - j))) (fun _ _ i => (intOf i + 1).toNat)
            case atStart => exact ⟨_, k, Nat.le_refl _, rfl, rfl, by simp [tl], by simp [pw]⟩
            case round =>
              obtain ⟨x, j, hj, hx, rfl, rfl, rfl⟩ := hrel
              by_cases hx0 : 0 ≤ x
              · obtain ⟨q, rfl⟩ := Int.eq_ofNat_of_zero_le hx0
                obtain rfl : j = q + 1 := by omega
                obtain ⟨m, hm⟩ : ∃ m, m = k - (q + 1) := ⟨_, rfl⟩
                rw [← hm]
                have hck := HC.out q (by omega)
                have hf1 := HF.out q
                have hdq := (digs_iff f k).1 HD.out q (by omega)
                have hdq1 := hdq.1
                have hdq2 := hdq.2
                have hsb := step_bound (m := m) HD.out (show q < k by omega) (by omega)
                have hsb1 := hsb.1
                have hsb2 := hsb.2
                have htb := tl_bound HD.out m (by omega)
                have htb1 := htb.1
                have hp1 := pw_pos m
                have hp2 := pw17 (m := m) (by omega)
                have htb2 : tl f k m ≤ 100000000000000000 := by omega
                have HT : Hid (tl f k (m + 1) = tl f k m + (f q - 48) * pw m) := by
                  show _ = _
                  simp only [tl]
                  rw [show k - 1 - m = q by omega]
                have HP : Hid (pw (m + 1) = pw m * 10) := rfl
                have HM : Hid (m + 1 = k - q) := by show _ = _; omega
                have hqk : (q : Int) < k := by omega
                clear hdq hsb htb hm hx
                go_wp2
                go_round
                case rel => exact ⟨_, q, by omega, rfl, rfl, by rw [← HM.out, HT.out], by rw [← HM.out, HP.out]⟩
                case measure => simp [intOf]
              · obtain rfl : j = 0 := by omega
                have HE : Hid (tl f k k = val f k) := tl_all f k
                have hE : plV f k = tl f k k := HV.out.trans HE.out.symm
                go_wp2
                go_ret
                exact ⟨rfl, hbel⟩
    · obtain ⟨hB, hV⟩ := pl_no (f := f) (n := n) (.inl hsz)
      have key : (n = 0 ∨ 18 < n) := by omega
      clear hsz
      rcases key with rfl | h18
      · go_enter Try.func6, Try.ntmps6
        go_wp2_with (first | (go_at_call 10; refine (clone_any a 0 c f w (by omega) hnil hb).mono ?_; rintro e w1 ⟨a1, rfl, hb1, hbel⟩) | (go_at_call 20; go_in))
        refine (zzparse_any a1 0 0 f w1 (by unfold maxLen; omega) hb1).mono ?_
        rintro e w2 ⟨rfl, rfl⟩
        clear hb hnil
        go_wp2
        refine wp_loop_rounds 1 ?_
        rw [rounds_succ]
        go_wp2
        go_ret
        exact ⟨rfl, hbel⟩
      · have h1 : (1 : Int) ≤ n := by omega
        have h2 : decide ((n : Int) ≤ 18) = false := by simp; omega
        go_enter Try.func6, Try.ntmps6
        go_wp2_with (first | (go_at_call 10; refine (clone_any a n c f w (by omega) hnil hb).mono ?_; rintro e w1 ⟨a1, rfl, hb1, hbel⟩) | (go_at_call 20; go_in))
        refine (zzparse_any a1 n n f w1 (by unfold maxLen; omega) hb1).mono ?_
        rintro e w2 ⟨rfl, rfl⟩
        clear hb hnil
        go_wp2
        refine wp_loop_rounds 1 ?_
        rw [rounds_succ]
        go_wp2
        go_ret
        exact ⟨rfl, hbel⟩
end Go.Proofs.Qxb6604168a
