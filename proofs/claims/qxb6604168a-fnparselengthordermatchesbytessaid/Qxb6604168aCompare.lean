/-
  THE WALK of compareBytes_h1b1 (25) at two slices of one length.
-/
import Derived.Test.Qxb6604168aClone
import Derived.Test.Qxb6604168aPlainOrder
import Derived.Deep.QuietTactic
import Derived.BigQuiet
namespace Go.Proofs.Qxb6604168a
open Go.RowKit

theorem ret_int {k : IntKind} {a b : Int} (h : a = b) : Ending.returned (.int k a) = .returned (.int k b) := by rw [h]

set_option maxHeartbeats 400000 in
theorem compare_any (a1 a2 : Option Addr) (n c1 c2 : Nat) (f g : Nat → Int) (w : World) (hn1 : 1 ≤ n) (hn : n ≤ 18) (hb1 : BytesAt w a1 n f) (hb2 : BytesAt w a2 n g) :
    Calls Try.prog 25 #[.slice a1 n c1, .slice a2 n c2] w fun e w' => e = .returned (.int .i64 (cmpB f g n)) ∧ Below w.heap.size w w' := by
  obtain ⟨b, off, rfl, hc⟩ := hb1.2 (by omega)
  obtain ⟨b', off', rfl, hc'⟩ := hb2.2 (by omega)
  have HF := hb1.1
  have HG := hb2.1
  clear hb1 hb2
  go_enter Try.func25, Try.ntmps25
  go_wp2
  go_loopw [6] (fun i wr => ∃ k : Nat, k ≤ n ∧ i = .int .i64 k ∧ cmpB f g k = 0 ∧ Below w.heap.size w wr) (fun i _ => n - (intOf i).toNat)
  case atStart => exact ⟨0, Nat.zero_le _, rfl, rfl, Below.refl _ _⟩
  case round =>
    obtain ⟨k, hk, rfl, h0, hbel⟩ := hrel
    have H0 : Hid (cmpB f g k = 0) := h0
    clear h0
    by_cases hlt : k < n
    · have hck := hc k hlt
      have hck' := hc' k hlt
      have e1 : wr.cell? ⟨b, off + k, none⟩ = some (.int .u8 (f k)) := (hbel.cell (p := ⟨b, off + k, none⟩) (World.block_lt_of_cell? w _ hck)).trans hck
      have e2 : wr.cell? ⟨b', off' + k, none⟩ = some (.int .u8 (g k)) := (hbel.cell (p := ⟨b', off' + k, none⟩) (World.block_lt_of_cell? w _ hck')).trans hck'
      have hf1 := (HF k).1
      have hf2 := (HF k).2
      have hg1 := (HG k).1
      have hg2 := (HG k).2
      have hlt' : (k : Int) < (n : Int) := by omega
      clear hc hc' hck hck' HF HG
      rcases (show f k < g k ∨ (g k < f k) ∨ (¬ f k < g k ∧ ¬ g k < f k) by omega) with h | h | ⟨h, h'⟩
      · have HE : Hid (cmpB f g n = -1) := cmp_less hlt H0.out h
        go_wp2
        go_quiet (fail)
        go_wp2
        go_ret
        exact ⟨ret_int HE.out.symm, below_drewN hbel _⟩
      · have HE : Hid (cmpB f g n = 1) := cmp_more hlt H0.out h
        have h1 : ¬ f k < g k := by omega
        go_wp2
        go_quiet (fail)
        go_wp2
        go_quiet (fail)
        go_wp2
        go_ret
        exact ⟨ret_int HE.out.symm, below_drewN (below_drewN hbel _) _⟩
      · have HE : Hid (cmpB f g (k + 1) = 0) := cmp_same H0.out h h'
        go_wp2
        go_quiet (fail)
        go_wp2
        go_quiet (fail)
        go_wp2
        go_roundw
        case rel => exact ⟨k + 1, by omega, by go_num, HE.out, below_drewN hbel _⟩
        case measure => simp [intOf]; omega
    · obtain rfl : k = n := by omega
      go_wp2
      go_ret
      exact ⟨ret_int H0.out.symm, hbel⟩
end Go.Proofs.Qxb6604168a
