/-
  THE LAW's WALK: FnParseLengthRoundTrip (7).
-/
import Derived.Test.Qxb6604168aDec
namespace Go.Proofs.Qxb6604168a
open Go.RowKit

theorem dec_any (n : Int) (w : World) (h0 : 0 ≤ n) (h1 : n ≤ 999999999999999999) :
    Calls Try.prog 23 #[.int .i64 n] w fun e w' => ∃ (L : Nat) (a' : Option Addr), e = .returned (.slice a' L L) ∧ 1 ≤ L ∧ L ≤ 18 ∧ nq n L = 0 ∧ BytesAt w' a' L (txt n L) ∧ Below w.heap.size w w' := by
  rcases Int.lt_or_eq_of_le h0 with h | h
  · exact dec_pos n w h h1
  · subst h; exact dec_zero w

theorem rowOf_snoc (k : Nat) (g : Nat → Int) (x : Int) (h : g k = x) : rowOf k g ++ [Value.int .u8 x] = rowOf (k + 1) g := by
  unfold rowOf
  rw [List.range_succ, List.map_append, List.map_cons, List.map_nil, h]

theorem pad_at (z k : Nat) (g : Nat → Int) : pad z g (z + k) = g k := by
  unfold pad
  rw [if_neg (by omega), show z + k - z = k by omega]

theorem pad_head {z k : Nat} (g : Nat → Int) (h : k < z) : pad z g k = 48 := by
  unfold pad
  rw [if_pos h]

theorem one_new (w : World) (x : Value) : ∀ j u, [x][j]? = some u → (w.alloc (.cells #[x] 5)).cell? ((⟨w.heap.size, 0, none⟩ : Addr).add j) = some u := by
  intro j u hj
  match j, hj with
  | 0, hj => simp at hj; subst hj; simp [Addr.add]

theorem one_cell (x : Int) : ∀ u ∈ [Value.int .u8 x], u.oneCell' = true := by
  intro u hu
  simp at hu
  subst hu
  rfl

/-- One append behind the new block of its one element. -/
theorem push_below {G : Nat} {w1 wr w' : World} {o : Obj} (h : Below G w1 wr) (hG : G ≤ w1.heap.size) (hg : (wr.alloc o).grownBy w' (some G)) : Below G w1 w' := by
  have := h.size
  exact (h.alloc (by omega) o).grown hg (by simp; omega) (by intro k hk; cases hk; exact Nat.le_refl _)

set_option maxHeartbeats 1000000 in
theorem law_round_in (n : Int) (z : Nat) (w : World) (h0 : 0 ≤ n) (h1 : n ≤ 999999999999999999) (hz : z ≤ 65536) :
    Calls Try.prog 7 #[.int .i64 n, .int .i64 z] w fun e w' => e = .returned (.bool true) ∧ Below w.heap.size w w' := by
  obtain ⟨i0, hi, hz0, hz1, hz2⟩ := info_parts info5
  go_enter Try.func7, Try.ntmps7
  go_wp2_with fail
  refine (dec_any n w h0 h1).mono ?_
  rintro e w1 ⟨L, a1, rfl, hL1, hL2, hq, hb, hbel⟩
  obtain ⟨b, off, rfl, hc⟩ := hb.2 (by omega)
  have HQ : Hid (nq n L = 0) := hq
  have HB : Hid (Below w.heap.size w w1) := hbel
  clear hq hbel
  go_wp2_with (first | (at_make; refine wpList_make_own _ rfl _ _ 22 rfl w1.heap.size 5 i0 (.int .u8 0) 1 Try.underlying22 hi hz0 hz1 _ _ _ (z + L) rfl rfl (by omega) (by rw [hz2]; omega) (by unfold maxLen; omega) (Nat.le_refl _) ?_))
  intro w2 hown hgrow
  have hbel2 : Below w1.heap.size w1 w2 := (Below.refl _ _).grown hgrow (Nat.le_refl _) (by simp)
  clear hgrow
  go_wp2
  go_loopw [6, 7] (fun v i wr => ∃ k : Nat, k ≤ z ∧ i = .int .i64 k ∧ v = .slice (some ⟨w1.heap.size, 0, none⟩) k (z + L) ∧ wr.ownsRow w1.heap.size 5 1 (.slice (some ⟨w1.heap.size, 0, none⟩) k (z + L)) k (rowOf k (pad z (txt n L))) ∧ Below w1.heap.size w1 wr) (fun _ i _ => z - (intOf i).toNat)
  case atStart => exact ⟨0, Nat.zero_le _, rfl, rfl, hown, hbel2⟩
  case round =>
    clear hown hbel2
    obtain ⟨k, hk, rfl, rfl, hown, hbel⟩ := hrel
    by_cases hlt : k < z
    · go_wp2_with (first | (at_builtin; refine wpList_append_fits _ rfl _ _ 22 rfl w1.heap.size 5 i0 1 Try.underlying22 hi hz1 w1.heap.size k (z + L) (rowOf k (pad z (txt n L))) rfl (hown.alloc _) ⟨wr.heap.size, 0, none⟩ 1 1 [.int .u8 48] rfl rfl (one_new wr _) (one_cell 48) (by omega) ?_))
      intro w' hown' hgrow
      rw [rowOf_snoc k _ 48 (pad_head _ hlt)] at hown'
      have R : Hid (_ ∧ _) := ⟨hown', push_below hbel (Nat.le_refl _) hgrow⟩
      clear hown' hgrow hown hbel
      go_wp2
      go_roundw
      case rel => exact ⟨k + 1, by omega, by go_num, rfl, R.out.1, R.out.2⟩
      case measure => simp [intOf]; omega
    · obtain rfl : k = z := by omega
      obtain ⟨wo, rfl⟩ : ∃ wo : World, wo = wr := ⟨_, rfl⟩
      go_wp2
      go_loopw [6, 8] (fun v i wr => ∃ j : Nat, j ≤ L ∧ i = .int .i64 j ∧ v = .slice (some ⟨w1.heap.size, 0, none⟩) (k + j) (k + L) ∧ wr.ownsRow w1.heap.size 5 1 (.slice (some ⟨w1.heap.size, 0, none⟩) (k + j) (k + L)) (k + j) (rowOf (k + j) (pad k (txt n L))) ∧ Below w1.heap.size w1 wr) (fun _ i _ => L - (intOf i).toNat)
      case atStart => exact ⟨0, Nat.zero_le _, rfl, rfl, hown, hbel⟩
      case round =>
        clear hown hbel
        obtain ⟨j, hj, rfl, rfl, hown, hbel⟩ := hrel
        by_cases hlt : j < L
        · have hcj := hc j hlt
          have hcj' : wr.cell? ⟨b, off + j, none⟩ = some (.int .u8 (txt n L j)) := (hbel.cell (p := ⟨b, off + j, none⟩) (World.block_lt_of_cell? w1 _ hcj)).trans hcj
          clear hcj
          go_wp2_with (first | (at_builtin; refine wpList_append_fits _ rfl _ _ 22 rfl w1.heap.size 5 i0 1 Try.underlying22 hi hz1 w1.heap.size (k + j) (k + L) (rowOf (k + j) (pad k (txt n L))) rfl (hown.alloc _) ⟨wr.heap.size, 0, none⟩ 1 1 [.int .u8 (txt n L j)] rfl rfl (one_new wr _) (one_cell _) (by omega) ?_))
          intro w' hown' hgrow
          rw [rowOf_snoc (k + j) _ _ (pad_at k j _)] at hown'
          have R : Hid (_ ∧ _) := ⟨hown', push_below hbel (Nat.le_refl _) hgrow⟩
          clear hown' hgrow hown hbel
          go_wp2
          go_roundw
          case rel => exact ⟨j + 1, by omega, by go_num, rfl, R.out.1, R.out.2⟩
          case measure => simp [intOf]; omega
        · obtain rfl : j = L := by omega
          have hb2 : BytesAt wr (some ⟨w1.heap.size, 0, none⟩) (k + j) (pad k (txt n j)) := by
            refine bytesAt_of_owns (base := w1.heap.size) (cap := k + j) (fun i => ?_) hown
            unfold pad
            split
            · omega
            · have := dg_bound (n := n) (j - 1 - (i - k)); unfold txt; omega
          have HE : Hid (Below w.heap.size w wr) := Below.chain HB.out hbel
          clear hown hbel hc hb
          have hpd := pad_digs (txt_digs n j j) k
          have hpv : val (pad k (txt n j)) (k + j) = n := by
            rw [pad_val, txt_val HQ.out j (Nat.le_refl _), Nat.sub_self]
            rfl
          by_cases h18 : k + j ≤ 18
          · obtain ⟨hB, hV⟩ := pl_yes (f := pad k (txt n j)) (n := k + j) (by omega) h18 hpd
            rw [hpv] at hV
            clear hpd hpv
            go_wp2_with fail
            refine (zzparse_any _ (k + j) (k + j) (pad k (txt n j)) wr (by unfold maxLen; omega) hb2).mono ?_
            rintro e w3 ⟨rfl, rfl⟩
            go_wp2
            go_ret
            exact ⟨rfl, HE.out⟩
          · obtain ⟨hB, hV⟩ := pl_no (f := pad k (txt n j)) (n := k + j) (.inl (by omega))
            clear hpd hpv
            go_wp2_with fail
            refine (zzparse_any _ (k + j) (k + j) (pad k (txt n j)) wr (by unfold maxLen; omega) hb2).mono ?_
            rintro e w3 ⟨rfl, rfl⟩
            go_wp2
            go_ret
            exact ⟨rfl, HE.out⟩

set_option maxHeartbeats 400000 in
theorem law_round (n z : Int) (w : World) : Calls Try.prog 7 #[.int .i64 n, .int .i64 z] w fun e w' => e = .returned (.bool true) ∧ Below w.heap.size w w' := by
  by_cases h1 : n < 0
  · go_enter Try.func7, Try.ntmps7
    go_wp2
    go_ret
    exact ⟨rfl, Below.refl _ _⟩
  by_cases h2 : 999999999999999999 < n
  · go_enter Try.func7, Try.ntmps7
    go_wp2
    go_ret
    exact ⟨rfl, Below.refl _ _⟩
  by_cases h3 : z < 0
  · go_enter Try.func7, Try.ntmps7
    go_wp2
    go_ret
    exact ⟨rfl, Below.refl _ _⟩
  by_cases h4 : 65536 < z
  · go_enter Try.func7, Try.ntmps7
    go_wp2
    go_ret
    exact ⟨rfl, Below.refl _ _⟩
  obtain ⟨k, rfl⟩ := Int.eq_ofNat_of_zero_le (show 0 ≤ z by omega)
  exact law_round_in n k w (by omega) (by omega) (by omega)
end Go.Proofs.Qxb6604168a
