/-
  THE LAW's WALK: FnUnescapeLengthBounds (4).
-/
import Derived.Test.Qxb6604225aDoorUnescape
namespace Go.Proofs.Qxb6604225aDoor
open Go.RowKit

theorem str_size (l : List Int) : (⟨(bytesOf l).toArray⟩ : ByteArray).size = l.length := by simp [bytesOf, ByteArray.size]

set_option maxHeartbeats 1000000 in
theorem law_len (s : ByteArray) (hs : s.size ≤ maxLen) (w : World) (hS : Sents w) :
    Calls Tryd.prog 4 #[.string s] w fun e w' => e = .returned (.bool true) ∧ Below w.heap.size w w' := by
  unfold maxLen at hs
  by_cases h1 : 1048576 < s.size
  · go_enter Tryd.func4, Tryd.ntmps4
    go_wp2
    go_ret
    exact ⟨rfl, Below.refl _ _⟩
  · go_enter Tryd.func4, Tryd.ntmps4
    go_wp2_with ((go_at_call 8; go_in))
    refine (zzunescape_any s (by omega) w hS).mono ?_
    rintro e w1 ⟨j, hj, rfl, hb⟩
    have hlen := run_len (sb s) s.size j
    rw [hj] at hlen
    obtain ⟨m1, m2, m3⟩ := hlen
    have hz := str_size (run (sb s) s.size j).2
    generalize (⟨(bytesOf (run (sb s) s.size j).2).toArray⟩ : ByteArray) = r at hz ⊢
    generalize (run (sb s) s.size j).2.length = m at hz m1 m2 m3
    have q1 : (m : Int) ≤ (s.size : Int) := by omega
    have q2 : (s.size : Int) ≤ 4 * (m : Int) := by omega
    have q3 : ((s.size : Int) - (m : Int)) % 3 = 0 := by omega
    clear hj m1 m2 m3
    go_wp2
    go_ret
    exact ⟨rfl, hb⟩
end Go.Proofs.Qxb6604225aDoor
