/-
  THE LAW's WALK: FnMethodStringIsStringOfBytes (3).
-/
import Derived.Test.Qxb6604168aMethod
namespace Go.Proofs.Qxb6604168a
open Go.RowKit

set_option maxHeartbeats 400000 in
theorem law_method (a : Option Addr) (n c : Nat) (f : Nat → Int) (w : World) (hn : n ≤ maxLen) (hb : BytesAt w a n f) (hnil : a = none → n = 0 ∧ c = 0) :
    Calls Try.prog 3 #[.slice a n c] w fun e w' => e = .returned (.bool true) ∧ Below w.heap.size w w' := by
  unfold maxLen at hn
  by_cases hbig : 1048576 < n
  · go_enter Try.func3, Try.ntmps3
    go_wp2
    go_ret
    exact ⟨rfl, Below.refl _ _⟩
  · go_enter Try.func3, Try.ntmps3
    go_wp2_with (first | (go_at_call 10; refine (clone_any a n c f w (by omega) hnil hb).mono ?_; rintro e w1 ⟨a1, rfl, hb1, hbel⟩) | (go_at_call 9; go_in))
    refine (zzmethod_any a1 n n (strOf n f) w1 (conv_any n hb1)).mono ?_
    rintro e w2 ⟨rfl, rfl⟩
    go_wp2_with fail
    refine (same_any (strOf n f) a1 n n f _ (by omega) hb1 (strOf_size n f) (strOf_get n f hb1.1)).mono ?_
    rintro e w3 ⟨rfl, hbel2⟩
    go_wp2
    go_ret
    exact ⟨rfl, Below.chain hbel hbel2⟩
end Go.Proofs.Qxb6604168a
