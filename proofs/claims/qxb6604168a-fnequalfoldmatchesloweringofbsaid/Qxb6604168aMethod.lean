/-
  THE WALKS of methodString (26), ZZMethodString (12), sameBytes_h1b1 (11).
-/
import Derived.Test.Qxb6604168aClone
import Derived.Deep.QuietTactic
import Derived.BigQuiet
import Derived.Laws.BytesArg
namespace Go.Proofs.Qxb6604168a
open Go.RowKit

/-- The string that holds the first n bytes. -/
def strOf (n : Nat) (f : Nat → Int) : ByteArray := strOfNums ((List.range n).map f)

theorem strOf_size (n : Nat) (f : Nat → Int) : (strOf n f).size = n := by simp [strOf, strOfNums_size]

theorem strOf_get (n : Nat) (f : Nat → Int) (hf : ∀ i, 0 ≤ f i ∧ f i ≤ 255) (i : Nat) (h : i < (strOf n f).size) : ((strOf n f)[i].toNat : Int) = f i := by
  have h' : i < n := by rw [strOf_size] at h; exact h
  have e : (strOf n f)[i] = UInt8.ofNat (f i).toNat := by
    show (strOf n f).data[i] = _
    simp [strOf, strOfNums]
  rw [e]
  have := hf i
  have h2 : (f i).toNat < 256 := by omega
  rw [UInt8.toNat_ofNat', Nat.mod_eq_of_lt h2]
  omega

/-- 'string(b)'. -/
theorem conv_any {w : World} {a : Option Addr} {n : Nat} {f : Nat → Int} (c : Nat) (h : BytesAt w a n f) : (convert 22 9 (.slice a n c)).run Try.prog w = .ok (.string (strOf n f)) w := by
  by_cases h0 : n = 0
  · subst h0
    rw [run_convert_bytes_string w 22 9 5 _ 0 c Try.underlying22 Try.underlying5 Try.underlying9]
    have e : strOf 0 f = ByteArray.empty := rfl
    rw [e]
    cases a <;> simp [Conv.bytesToString, loadCells]
    all_goals rfl
  · obtain ⟨b, off, rfl, hc⟩ := h.2 (by omega)
    refine run_convert_bytes_arg w 22 5 Try.underlying22 Try.underlying5 b off n c ((List.range n).map f) (by simp) (fun i hi => ?_) 9 Try.underlying9
    rw [hc i hi]
    simp [List.getD, hi]

theorem ret_str {s t : ByteArray} (h : s = t) : Ending.returned (.string s) = .returned (.string t) := by rw [h]

theorem str_of_test {s : ByteArray} {l : List UInt8} (h : (s.toList == l) = true) : (⟨l.toArray⟩ : ByteArray) = s := by
  have h' : s.toList = l := by simpa using h
  rw [ByteArray.toList_eq] at h'
  subst h'
  simp

set_option maxHeartbeats 400000 in
theorem method_any (a : Option Addr) (n c : Nat) (s : ByteArray) (w : World) (hconv : (convert 22 9 (.slice a n c)).run Try.prog w = .ok (.string s) w) :
    Calls Try.prog 26 #[.slice a n c] w fun e w' => e = .returned (.string s) ∧ w' = w := by
  go_enter Try.func26, Try.ntmps26
  go_wp2
  · go_ret
    exact ⟨ret_str (str_of_test (l := [71, 69, 84]) (by assumption)), rfl⟩
  · go_ret
    exact ⟨ret_str (str_of_test (l := [72, 69, 65, 68]) (by assumption)), rfl⟩
  · go_ret
    exact ⟨ret_str (str_of_test (l := [80, 85, 84]) (by assumption)), rfl⟩
  · go_ret
    exact ⟨ret_str (str_of_test (l := [68, 69, 76, 69, 84, 69]) (by assumption)), rfl⟩
  · go_ret
    exact ⟨ret_str (str_of_test (l := [80, 79, 83, 84]) (by assumption)), rfl⟩
  · go_ret
    exact ⟨rfl, rfl⟩

set_option maxHeartbeats 400000 in
theorem zzmethod_any (a : Option Addr) (n c : Nat) (s : ByteArray) (w : World) (hconv : (convert 22 9 (.slice a n c)).run Try.prog w = .ok (.string s) w) :
    Calls Try.prog 12 #[.slice a n c] w fun e w' => e = .returned (.string s) ∧ w' = w := by
  go_enter Try.func12, Try.ntmps12
  go_wp2_with (go_at_call 26; refine (method_any a n c s w hconv).mono ?_; rintro e w' ⟨rfl, rfl⟩)
  go_ret
  exact ⟨rfl, rfl⟩

set_option maxHeartbeats 400000 in
theorem same_any (s : ByteArray) (a : Option Addr) (n c : Nat) (f : Nat → Int) (w : World) (hn : n ≤ 1048576) (hb : BytesAt w a n f) (hs : s.size = n) (heq : ∀ i (h : i < s.size), (s[i].toNat : Int) = f i) :
    Calls Try.prog 11 #[.string s, .slice a n c] w fun e w' => e = .returned (.bool true) ∧ Below w.heap.size w w' := by
  go_enter Try.func11, Try.ntmps11
  go_wp2
  go_loopw [5] (fun i wr => ∃ k : Nat, k ≤ n ∧ i = .int .i64 k ∧ Below w.heap.size w wr) (fun i _ => n - (intOf i).toNat)
  case atStart => exact ⟨0, Nat.zero_le _, rfl, Below.refl _ _⟩
  case round =>
    obtain ⟨k, hk, rfl, hbel⟩ := hrel
    by_cases hlt : k < n
    · obtain ⟨b, off, rfl, hc⟩ := hb.2 (by omega)
      have hck := hc k hlt
      have hbl := World.block_lt_of_cell? w _ hck
      have hck' : wr.cell? ⟨b, off + k, none⟩ = some (.int .u8 (f k)) := (hbel.cell (p := ⟨b, off + k, none⟩) hbl).trans hck
      have hlt' : (k : Int) < (n : Int) := by omega
      have hks : k < s.size := by omega
      clear hc hck hbl
      go_wp2
      go_quiet (fail)
      go_wp2
      go_roundw
      case rel => exact ⟨k + 1, by omega, by go_num, below_drewN hbel nq⟩
      case measure => simp [intOf]; omega
    · obtain rfl : k = n := by omega
      go_wp2
      go_ret
      exact ⟨rfl, hbel⟩
end Go.Proofs.Qxb6604168a
