/-
  THE WALK of strconv.ParseUint (10) at three bytes, base 8, bit size 8: the byte's value and nil, or an error that is not nil.
-/
import Derived.Test.Qxb6604225aDoorParse
import Derived.Test.Qxb6604225aDoorShelf
namespace Go.Proofs.Qxb6604225aDoor
open Go.RowKit

/-- What the two sentinels' variables hold is an interface value. -/
def Sents (w : World) : Prop := (∃ te pe, w.cell? ⟨0, 0, none⟩ = some (.iface te pe)) ∧ ∃ te pe, w.cell? ⟨1, 0, none⟩ = some (.iface te pe)

theorem Sents.below {w w' : World} (h : Sents w) (hb : Below w.heap.size w w') : Sents w' := by
  obtain ⟨⟨t0, p0, h0⟩, t1, p1, h1⟩ := h
  exact ⟨⟨t0, p0, (hb.cell (p := ⟨0, 0, none⟩) (World.block_lt_of_cell? w _ h0)).trans h0⟩, t1, p1, (hb.cell (p := ⟨1, 0, none⟩) (World.block_lt_of_cell? w _ h1)).trans h1⟩

theorem bytesWorld_below (w : World) (e : TypeId) (s : ByteArray) : Below w.heap.size w (Lib.bytesWorld w e s) :=
  ⟨rfl, rfl, rfl, by rw [Lib.bytesWorld_size]; omega, fun k hk => Lib.bytesWorld_at_old w e s k hk⟩

theorem Below.chain {w w1 w2 : World} (h : Below w.heap.size w w1) (k : Below w1.heap.size w1 w2) : Below w.heap.size w w2 :=
  h.trans (k.mono h.size)

set_option maxHeartbeats 1000000 in
theorem parse_any (t : ByteArray) (h3 : t.size = 3) (w : World) (hS : Sents w) :
    Calls Tryd.prog 10 #[.string t, .int .i64 8, .int .i64 8] w fun e w' =>
      ((ok8 (sb t) = true ∧ e = .returned (.tuple #[.int .u64 (v8 (sb t) 3), .nilIface])) ∨
        (ok8 (sb t) = false ∧ ∃ (n : Int) (N : Nat), e = .returned (.tuple #[.int .u64 n, .iface 40 (.pointer (some ⟨N, 0, none⟩))]))) ∧ Below w.heap.size w w' := by
  have HS := hS.below (bytesWorld_below w 5 t)
  have hB := bytesWorld_below w 5 t
  have H3 : Hid (t.size = 3) := h3
  clear h3
  go_enter Tryd.func10, Tryd.ntmps10
  go_wp2_with fail
  refine (inner_any t H3.out w).mono ?_
  rintro e w1 ⟨he, hw⟩
  rw [← hw] at HS hB
  clear hw
  rcases he with ⟨hok, rfl⟩ | ⟨hok, n, c, rfl, hc⟩
  · have HO : Hid (ok8 (sb t) = true) := hok
    clear hok
    go_wp2
    go_ret2
    exact ⟨.inl ⟨HO.out, rfl⟩, hB⟩
  · have HO : Hid (ok8 (sb t) = false) := hok
    clear hok
    obtain ⟨⟨t0, p0, k0⟩, t1, p1, k1⟩ := HS
    rcases hc with rfl | rfl
    · go_wp2_with fail
      refine (Tryd.strconv_toError_range _ t 8 8 (.iface t1 p1) w1 (by rw [H3.out]; decide) k1 (.inr ⟨t1, p1, rfl⟩)).mono ?_
      rintro e w2 ⟨N, rfl, _, _, hb2⟩
      have HE : Hid (Below w.heap.size w w2) := Below.chain hB hb2
      clear hb2
      go_wp2
      go_ret2
      exact ⟨.inr ⟨HO.out, _, _, rfl⟩, HE.out⟩
    · go_wp2_with fail
      refine (Tryd.strconv_toError_syntax _ t 8 8 (.iface t0 p0) w1 (by rw [H3.out]; decide) k0 (.inr ⟨t0, p0, rfl⟩)).mono ?_
      rintro e w2 ⟨N, rfl, _, _, hb2⟩
      have HE : Hid (Below w.heap.size w w2) := Below.chain hB hb2
      clear hb2
      go_wp2
      go_ret2
      exact ⟨.inr ⟨HO.out, _, _, rfl⟩, HE.out⟩
end Go.Proofs.Qxb6604225aDoor
