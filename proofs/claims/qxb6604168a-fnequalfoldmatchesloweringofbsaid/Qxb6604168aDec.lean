/-
  THE WALK of decimalBytes_h1b1 (23).
-/
import Derived.Test.Qxb6604168aClone
import Derived.Test.Qxb6604168aPlainDec
namespace Go.Proofs.Qxb6604168a
open Go.RowKit

/-- The array 'buf' of twenty bytes, in block B. -/
def BufAt (w : World) (B : Nat) (g : Nat → Int) : Prop := w.heap[B]? = some (.cells (rowOf 20 g).toArray 36 (0, 0))

theorem BufAt.cell {w : World} {B : Nat} {g : Nat → Int} (h : BufAt w B g) {j : Nat} (hj : j < 20) : w.cell? ⟨B, j, none⟩ = some (.int .u8 (g j)) := by
  rw [cell_of_row w B j _ 36 (0, 0) h, List.getElem?_toArray, rowOf_get _ _ _ hj]

theorem BufAt.free {w : World} {B : Nat} {g : Nat → Int} (h : BufAt w B g) (j : Nat) : w.frozen? ⟨B, j, none⟩ = false := frozen_of_row w B j _ 36 h

theorem BufAt.stored {w : World} {B : Nat} {g g' : Nat → Int} (h : BufAt w B g) {k : Nat} (hk : k < 20) (hg : ∀ j, j ≠ k → g' j = g j) : BufAt (w.setCell ⟨B, k, none⟩ (.int .u8 (g' k))) B g' := by
  unfold BufAt
  rw [heap_setCell_same w B k _ 36 _ h, List.setIfInBounds_toArray, rowOf_set 20 g g' k hk hg]

/-- What 'buf' holds behind m rounds. -/
def bufF (n : Int) (m : Nat) (i : Nat) : Int := if 20 - m ≤ i then dg n (19 - i) else 0

theorem bufF_step (n : Int) (m p : Nat) (h : p + 1 + m = 20) : bufF n (m + 1) p = 48 + nq n m % 10 ∧ ∀ j, j ≠ p → bufF n (m + 1) j = bufF n m j := by
  constructor
  · unfold bufF dg
    rw [if_pos (by omega), show 19 - p = m by omega]
  · intro j hj
    unfold bufF
    by_cases h1 : 20 - m ≤ j
    · rw [if_pos h1, if_pos (by omega)]
    · rw [if_neg h1, if_neg (by omega)]

theorem bufF_read (n : Int) (m q k : Nat) (h : q + m = 20) (hk : k < m) : bufF n m (q + k) = txt n m k := by
  unfold bufF txt
  rw [if_pos (by omega), show 19 - (q + k) = m - 1 - k by omega]

/-- What 'out' holds behind k rounds. -/
def outF (g : Nat → Int) (k j : Nat) : Int := if j < k then g j else 0

theorem outF_step (g : Nat → Int) (k : Nat) : outF g (k + 1) k = g k ∧ ∀ j, j ≠ k → outF g (k + 1) j = outF g k j := by
  constructor
  · simp [outF]
  · intro j hj
    unfold outF
    by_cases h1 : j < k
    · rw [if_pos h1, if_pos (by omega)]
    · rw [if_neg h1, if_neg (by omega)]

theorem outF_all (g : Nat → Int) (n : Nat) : rowOf n (outF g n) = rowOf n g := by
  unfold rowOf
  apply List.map_congr_left
  intro j hj
  simp at hj
  simp [outF, hj]

theorem outF_none (g : Nat → Int) (n : Nat) : rowOf n (outF g 0) = rowOf n fun _ => 0 := by
  unfold rowOf
  apply List.map_congr_left
  intro j hj
  simp [outF]

set_option maxHeartbeats 400000 in
theorem dec_pos (n : Int) (w : World) (h0 : 0 < n) (h1 : n ≤ 999999999999999999) :
    Calls Try.prog 23 #[.int .i64 n] w fun e w' => ∃ (L : Nat) (a' : Option Addr), e = .returned (.slice a' L L) ∧ 1 ≤ L ∧ L ≤ 18 ∧ nq n L = 0 ∧ BytesAt w' a' L (txt n L) ∧ Below w.heap.size w w' := by
  have hne : (n == 0) = false := by simp; omega
  obtain ⟨i0, hi, hz0, hz1, hz2⟩ := info_parts info5
  go_enter Try.func23, Try.ntmps23
  go_wp2
  go_loopw [0, 4] (fun v i wr => ∃ (q m : Nat), q + m = 20 ∧ m ≤ 18 ∧ i = .int .i64 q ∧ v = .int .i64 (nq n m) ∧ BufAt wr w.heap.size (bufF n m) ∧ w.heap.size < wr.heap.size ∧ Below w.heap.size w wr) (fun _ i _ => (intOf i).toNat)
  case atStart => exact ⟨20, 0, rfl, by omega, rfl, rfl, heap_alloc_new w _, by simp, (Below.refl _ _).alloc (Nat.le_refl _) _⟩
  case round =>
    obtain ⟨q, m, hqm, hm, rfl, rfl, hbuf, hlt, hbel⟩ := hrel
    have hv0 := nq_nonneg (show 0 ≤ n by omega) m
    have hv1 := nq_le (show 0 ≤ n by omega) m
    have HQ : Hid (q + m = 20) := hqm
    have hq1 : q + m ≤ 20 := by omega
    have hq2 : 20 ≤ q + m := by omega
    clear hqm
    by_cases hpos : 0 < nq n m
    · have hfew := nq_few (show 0 ≤ n by omega) h1 hpos
      obtain ⟨p, rfl⟩ : ∃ p, q = p + 1 := ⟨q - 1, by omega⟩
      have hold := hbuf.cell (j := p) (by omega)
      have hfree := hbuf.free p
      have hst := bufF_step n m p (by omega)
      have R : Hid (BufAt (wr.setCell ⟨w.heap.size, p, none⟩ (.int .u8 (48 + nq n m % 10))) w.heap.size (bufF n (m + 1))) := by
        have := hbuf.stored (g' := bufF n (m + 1)) (show p < 20 by omega) hst.2
        rw [hst.1] at this
        exact this
      have R2 : Hid (Below w.heap.size w (wr.setCell ⟨w.heap.size, p, none⟩ (.int .u8 (48 + nq n m % 10)))) := hbel.setCell (Nat.le_refl _) _
      have hp20 : (p : Int) < 20 := by omega
      clear hst hbuf hbel
      go_wp2
      go_roundw
      case rel => exact ⟨p, m + 1, by omega, by omega, by go_num, rfl, R.out, by simpa using hlt, R2.out⟩
      case measure => simp [intOf]
    · have hz : nq n m = 0 := by omega
      have HZ : Hid (nq n m = 0) := hz
      have hm1 : 1 ≤ m := by
        rcases Nat.eq_zero_or_pos m with h | h
        · subst h; simp only [nq] at hz; omega
        · exact h
      clear hz
      obtain ⟨wo, rfl⟩ : ∃ wo : World, wo = wr := ⟨_, rfl⟩
      go_wp2_with (first | (at_make; refine wpList_make_full _ rfl _ _ 22 rfl wo.heap.size 5 i0 (.int .u8 0) 1 Try.underlying22 hi hz0 hz1 _ _ _ _ m rfl rfl (by omega) (by omega) (by rw [hz2]; omega) (by unfold maxLen; omega) (Nat.le_refl _) ?_))
      intro w1 hown hgrow
      rw [rowOf_zero, ← outF_none (txt n m)] at hown
      have hbel1 : Below w.heap.size w w1 := hbel.grown hgrow (by omega) (by simp)
      have hbuf1 : BufAt w1 w.heap.size (bufF n m) := (hgrow.block _ hlt (by simp)).trans hbuf
      clear hgrow hbel hbuf
      go_wp2
      go_loopw [6] (fun i wr => ∃ k : Nat, k ≤ m ∧ i = .int .i64 k ∧ wr.ownsRow wo.heap.size 5 1 (.slice (some ⟨wo.heap.size, 0, none⟩) m m) m (rowOf m (outF (txt n m) k)) ∧ BufAt wr w.heap.size (bufF n m) ∧ Below w.heap.size w wr) (fun i _ => m - (intOf i).toNat)
      case atStart => exact ⟨0, Nat.zero_le _, rfl, hown, hbuf1, hbel1⟩
      case round =>
        clear hown hbuf1 hbel1
        obtain ⟨k, hk, rfl, hown, hbuf, hbel⟩ := hrel
        by_cases hkm : k < m
        · have hread := hbuf.cell (j := q + k) (by omega)
          rw [bufF_read n m q k HQ.out hkm] at hread
          have hfz := hown.frozenAt k
          have hold : wr.cell? ⟨wo.heap.size, k, none⟩ = some (.int .u8 (outF (txt n m) k k)) := by
            rw [hown.cellAt k (by omega), rowOf_get _ _ _ hkm]
          have hst := outF_step (txt n m) k
          have R1 : Hid ((wr.setCell ⟨wo.heap.size, k, none⟩ (.int .u8 (txt n m k))).ownsRow wo.heap.size 5 1 (.slice (some ⟨wo.heap.size, 0, none⟩) m m) m (rowOf m (outF (txt n m) (k + 1)))) := by
            have := (hown.stored k (.int .u8 (txt n m k))).1
            have e := rowOf_set m (outF (txt n m) k) (outF (txt n m) (k + 1)) k hkm hst.2
            rw [hst.1] at e
            rw [e] at this
            exact this
          have R2 : Hid (BufAt (wr.setCell ⟨wo.heap.size, k, none⟩ (.int .u8 (txt n m k))) w.heap.size (bufF n m)) :=
            (heap_setCell_other wr ⟨wo.heap.size, k, none⟩ w.heap.size _ (by show w.heap.size ≠ wo.heap.size; omega)).trans hbuf
          have R3 : Hid (Below w.heap.size w (wr.setCell ⟨wo.heap.size, k, none⟩ (.int .u8 (txt n m k)))) := hbel.setCell (by show w.heap.size ≤ wo.heap.size; omega) _
          have hi20 : (q : Int) + (k : Int) < 20 := by omega
          clear hst hown hbuf hbel
          go_wp2
          go_roundw
          case rel => exact ⟨k + 1, by omega, by go_num, R1.out, R2.out, R3.out⟩
          case measure => simp [intOf]; omega
        · obtain rfl : k = m := by omega
          rw [outF_all] at hown
          have R : Hid (BytesAt wr (some ⟨wo.heap.size, 0, none⟩) k (txt n k)) :=
            bytesAt_of_owns (base := wo.heap.size) (cap := k) (fun i => by have := dg_bound (n := n) (k - 1 - i); unfold txt; omega) hown
          clear hown hbuf
          go_wp2
          go_ret
          exact ⟨k, _, rfl, hm1, hm, HZ.out, R.out, hbel⟩

set_option maxHeartbeats 400000 in
theorem dec_zero (w : World) :
    Calls Try.prog 23 #[.int .i64 0] w fun e w' => ∃ (L : Nat) (a' : Option Addr), e = .returned (.slice a' L L) ∧ 1 ≤ L ∧ L ≤ 18 ∧ nq 0 L = 0 ∧ BytesAt w' a' L (txt 0 L) ∧ Below w.heap.size w w' := by
  go_enter Try.func23, Try.ntmps23
  go_wp2
  go_ret
  refine ⟨1, _, rfl, by omega, by omega, rfl, ?_, (Below.refl _ _).alloc (Nat.le_refl _) _⟩
  refine ⟨fun i => ?_, fun _ => ⟨_, _, rfl, fun i hi => ?_⟩⟩
  · have := dg_bound (n := 0) (1 - 1 - i)
    unfold txt
    omega
  · obtain rfl : i = 0 := by omega
    simp [txt, dg, nq]

end Go.Proofs.Qxb6604168a
