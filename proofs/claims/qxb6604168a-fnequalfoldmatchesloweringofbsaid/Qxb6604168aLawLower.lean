/-
  THE LAW's WALK: FnEqualFoldMatchesLoweringOfB (5).
-/
import Derived.Test.Qxb6604168aFold
import Derived.Test.Qxb6604168aDec
namespace Go.Proofs.Qxb6604168a
open Go.RowKit

theorem up_bound {c : Int} (h : 0 ≤ c ∧ c ≤ 255) : 0 ≤ up c ∧ up c ≤ 255 := by unfold up; split <;> omega
theorem lo_bound {c : Int} (h : 0 ≤ c ∧ c ≤ 255) : 0 ≤ lo c ∧ lo c ≤ 255 := by unfold lo; split <;> omega

theorem foldEq_congr (f : Nat → Int) {g g' : Nat → Int} {n : Nat} (h : ∀ i, i < n → g i = g' i) : foldEq f g n = foldEq f g' n := by
  rw [Bool.eq_iff_iff, fold_iff, fold_iff]
  constructor
  · intro a i hi; rw [a i hi, h i hi]
  · intro a i hi; rw [a i hi, h i hi]

theorem sb_strOf {n : Nat} {g : Nat → Int} (hg : ∀ i, 0 ≤ g i ∧ g i ≤ 255) : ∀ i, i < n → sb (strOf n g) i = g i := by
  intro i hi
  have h : i < (strOf n g).size := by rw [strOf_size]; exact hi
  rw [← get_sb _ i h, strOf_get n g hg i h]

/-- A store into one row of the call's own leaves another one owned. -/
theorem owns_other {w : World} {base g g' n k : Nat} {xs : List Value} {x : Value} (h : w.ownsRow base 5 1 (.slice (some ⟨g, 0, none⟩) n n) n xs) (hne : g ≠ g') :
    (w.setCell ⟨g', k, none⟩ x).ownsRow base 5 1 (.slice (some ⟨g, 0, none⟩) n n) n xs := by
  obtain ⟨h1, h2⟩ := h
  refine ⟨h1, ?_⟩
  rcases h2 with h2 | ⟨b, cap, cur, hv, hb, hh, r⟩
  · exact .inl h2
  · refine .inr ⟨b, cap, cur, hv, hb, ?_, r⟩
    have e : b = g := by
      simp only [Value.slice.injEq, Option.some.injEq, Addr.mk.injEq, and_true, true_and] at hv
      exact hv.1.symm
    rw [heap_setCell_other w ⟨g', k, none⟩ b x (by show b ≠ g'; omega)]
    exact hh

theorem owns_step {w : World} {base g n k : Nat} {h : Nat → Int} (ho : w.ownsRow base 5 1 (.slice (some ⟨g, 0, none⟩) n n) n (rowOf n (outF h k))) (hk : k < n) :
    (w.setCell ⟨g, k, none⟩ (.int .u8 (h k))).ownsRow base 5 1 (.slice (some ⟨g, 0, none⟩) n n) n (rowOf n (outF h (k + 1))) := by
  have := (ho.stored k (.int .u8 (h k))).1
  have hst := outF_step h k
  have e := rowOf_set n (outF h k) (outF h (k + 1)) k hk hst.2
  rw [hst.1] at e
  rw [e] at this
  exact this

theorem owns_old {w : World} {base g n k : Nat} {h : Nat → Int} (ho : w.ownsRow base 5 1 (.slice (some ⟨g, 0, none⟩) n n) n (rowOf n (outF h k))) (hk : k < n) :
    w.cell? ⟨g, k, none⟩ = some (.int .u8 (outF h k k)) := by
  rw [ho.cellAt k (by omega), rowOf_get _ _ _ hk]

set_option maxHeartbeats 1000000 in
theorem law_lower_in (a : Option Addr) (n c : Nat) (f : Nat → Int) (w : World) (hn : n ≤ 1048576) (hb : BytesAt w a n f) (hnil : a = none → n = 0 ∧ c = 0) :
    Calls Try.prog 5 #[.slice a n c] w fun e w' => e = .returned (.bool true) ∧ Below w.heap.size w w' := by
  obtain ⟨i0, hi, hz0, hz1, hz2⟩ := info_parts info5
  go_enter Try.func5, Try.ntmps5
  go_wp2_with ((go_at_call 17; go_in))
  refine (clone_any a n c f w hn hnil hb).mono ?_
  rintro e w1 ⟨a1, rfl, hb1, hbel⟩
  have HB : Hid (Below w.heap.size w w1) := hbel
  clear hb hnil hbel
  go_wp2_with (first | (at_make; refine wpList_make_full _ rfl _ _ 22 rfl w1.heap.size 5 i0 (.int .u8 0) 1 Try.underlying22 hi hz0 hz1 _ _ _ _ n rfl rfl rfl rfl (by rw [hz2]; omega) (by unfold maxLen; omega) (Nat.le_refl _) ?_))
  intro w2 hownU hgrow
  rw [rowOf_zero, ← outF_none (fun i => up (f i))] at hownU
  have hbel2 : Below w1.heap.size w1 w2 := (Below.refl _ _).grown hgrow (Nat.le_refl _) (by simp)
  have hlt12 : w1.heap.size < w2.heap.size := (hownU.lt _ rfl).2
  clear hgrow
  go_wp2_with (first | (at_make; refine wpList_make_full _ rfl _ _ 22 rfl w1.heap.size 5 i0 (.int .u8 0) 1 Try.underlying22 hi hz0 hz1 _ _ _ _ n rfl rfl rfl rfl (by rw [hz2]; omega) (by unfold maxLen; omega) (by omega) ?_))
  intro w3 hownL hgrow
  rw [rowOf_zero, ← outF_none (fun i => lo (f i))] at hownL
  have hbel3 : Below w1.heap.size w1 w3 := hbel2.grown hgrow (by omega) (by simp)
  have hownU' := hownU.kept hgrow (.inr (by simp [Value.ownBlock]))
  clear hgrow hownU hbel2
  go_wp2
  go_loopw [5, 6] (fun v i wr => ∃ k : Nat, k ≤ n ∧ i = .int .i64 k ∧ v = .bool (letr f k) ∧ wr.ownsRow w1.heap.size 5 1 (.slice (some ⟨w1.heap.size, 0, none⟩) n n) n (rowOf n (outF (fun i => up (f i)) k)) ∧ wr.ownsRow w1.heap.size 5 1 (.slice (some ⟨w2.heap.size, 0, none⟩) n n) n (rowOf n (outF (fun i => lo (f i)) k)) ∧ Below w1.heap.size w1 wr) (fun _ i _ => n - (intOf i).toNat)
  case atStart => exact ⟨0, Nat.zero_le _, rfl, rfl, hownU', hownL, hbel3⟩
  case round =>
    clear hownU' hownL hbel3
    obtain ⟨k, hk, rfl, rfl, hU, hL, hbel⟩ := hrel
    by_cases hlt : k < n
    · obtain ⟨b, off, rfl, hc⟩ := hb1.2 (by omega)
      have hck := hc k hlt
      have hbl := World.block_lt_of_cell? w1 _ hck
      have hck' : wr.cell? ⟨b, off + k, none⟩ = some (.int .u8 (f k)) := (hbel.cell (p := ⟨b, off + k, none⟩) hbl).trans hck
      have hf1 := (hb1.1 k).1
      have hf2 := (hb1.1 k).2
      have o1 := owns_old hU hlt
      have z1 := hU.frozenAt k
      have U1 := owns_step hU hlt
      have L1 := owns_other (x := .int .u8 (up (f k))) (k := k) hL (show w2.heap.size ≠ w1.heap.size by omega)
      have o2 := owns_old L1 hlt
      have z2 := L1.frozenAt k
      have U2 := owns_other (x := .int .u8 (lo (f k))) (k := k) U1 (show w1.heap.size ≠ w2.heap.size by omega)
      have L2 := owns_step L1 hlt
      have B1 : Below w1.heap.size w1 ((wr.setCell ⟨w1.heap.size, k, none⟩ (.int .u8 (up (f k)))).setCell ⟨w2.heap.size, k, none⟩ (.int .u8 (lo (f k)))) :=
        (hbel.setCell (Nat.le_refl _) _).setCell (by show w1.heap.size ≤ w2.heap.size; omega) _
      have hbl' : b < w1.heap.size := hbl
      have r1 : (wr.setCell ⟨w1.heap.size, k, none⟩ (.int .u8 (up (f k)))).cell? ⟨b, off + k, none⟩ = some (.int .u8 (f k)) := by
        rw [World.cell?_of_block (w := wr) (heap_setCell_other wr ⟨w1.heap.size, k, none⟩ b _ (by show b ≠ w1.heap.size; omega))]
        exact hck'
      have r2 : ((wr.setCell ⟨w1.heap.size, k, none⟩ (.int .u8 (up (f k)))).setCell ⟨w2.heap.size, k, none⟩ (.int .u8 (lo (f k)))).cell? ⟨b, off + k, none⟩ = some (.int .u8 (f k)) := by
        rw [World.cell?_of_block (w := wr.setCell ⟨w1.heap.size, k, none⟩ (.int .u8 (up (f k)))) (heap_setCell_other _ ⟨w2.heap.size, k, none⟩ b _ (by show b ≠ w2.heap.size; omega))]
        exact r1
      have R : Hid (_ ∧ _ ∧ _) := ⟨U2, L2, B1⟩
      clear U1 L1 U2 L2 B1 hU hL hbel hc hck hbl hb1
      cases hu : isUp (f k) with
      | true =>
        have HN : Hid (letr f (k + 1) = true) := by show _ = _; simp [letr, hu]
        go_wp2_with (first | (go_at_call 16; refine (upper_any (f k) _ hf1 hf2).mono ?_; rintro e w' ⟨rfl, rfl⟩) | (go_at_call 18; refine (lower_any (f k) _ hf1 hf2).mono ?_; rintro e w' ⟨rfl, rfl⟩) | (go_at_call 15; refine (isUpper_any (f k) _).mono ?_; rintro e w' ⟨rfl, rfl⟩))
        go_roundw
        case rel => exact ⟨k + 1, by omega, by go_num, by rw [HN.out], R.out.1, R.out.2.1, R.out.2.2⟩
        case measure => simp [intOf]; omega
      | false =>
        cases hl : isLo (f k) with
        | true =>
          have HN : Hid (letr f (k + 1) = true) := by show _ = _; simp [letr, hl]
          go_wp2_with (first | (go_at_call 16; refine (upper_any (f k) _ hf1 hf2).mono ?_; rintro e w' ⟨rfl, rfl⟩) | (go_at_call 18; refine (lower_any (f k) _ hf1 hf2).mono ?_; rintro e w' ⟨rfl, rfl⟩) | (go_at_call 15; refine (isUpper_any (f k) _).mono ?_; rintro e w' ⟨rfl, rfl⟩) | (go_at_call 19; refine (isLower_any (f k) _).mono ?_; rintro e w' ⟨rfl, rfl⟩))
          go_roundw
          case rel => exact ⟨k + 1, by omega, by go_num, by rw [HN.out], R.out.1, R.out.2.1, R.out.2.2⟩
          case measure => simp [intOf]; omega
        | false =>
          have HN : Hid (letr f (k + 1) = letr f k) := by show _ = _; simp [letr, hl, hu]
          go_wp2_with (first | (go_at_call 16; refine (upper_any (f k) _ hf1 hf2).mono ?_; rintro e w' ⟨rfl, rfl⟩) | (go_at_call 18; refine (lower_any (f k) _ hf1 hf2).mono ?_; rintro e w' ⟨rfl, rfl⟩) | (go_at_call 15; refine (isUpper_any (f k) _).mono ?_; rintro e w' ⟨rfl, rfl⟩) | (go_at_call 19; refine (isLower_any (f k) _).mono ?_; rintro e w' ⟨rfl, rfl⟩))
          go_roundw
          case rel => exact ⟨k + 1, by omega, by go_num, by rw [HN.out], R.out.1, R.out.2.1, R.out.2.2⟩
          case measure => simp [intOf]; omega
    · obtain rfl : k = n := by omega
      rw [outF_all] at hU hL
      have gU : ∀ i, 0 ≤ up (f i) ∧ up (f i) ≤ 255 := fun i => up_bound (hb1.1 i)
      have gL : ∀ i, 0 ≤ lo (f i) ∧ lo (f i) ≤ 255 := fun i => lo_bound (hb1.1 i)
      have cU := conv_any k (bytesAt_of_owns (f := fun i => up (f i)) gU hU)
      have cL := conv_any k (bytesAt_of_owns (f := fun i => lo (f i)) gL hL)
      have eU : foldEq f (sb (strOf k fun i => up (f i))) k = !letr f k := by rw [← fold_upper]; exact foldEq_congr f (sb_strOf gU)
      have eL : foldEq f (sb (strOf k fun i => lo (f i))) k = true := by rw [← fold_lower f k]; exact foldEq_congr f (sb_strOf gL)
      have zU := strOf_size k fun i => up (f i)
      have zL := strOf_size k fun i => lo (f i)
      generalize (strOf k fun i => up (f i)) = sU at cU eU zU
      generalize (strOf k fun i => lo (f i)) = sL at cL eL zL
      have hb2 := hb1.below hbel
      have HE : Hid (Below w.heap.size w wr) := Below.chain HB.out hbel
      have ZU : Hid (sU.size = k) := zU
      have ZL : Hid (sL.size = k) := zL
      clear hU hL gU gL zU zL hbel hb1
      go_wp2_with fail
      refine (zzfold_eq a1 k k f sL wr hn ZL.out hb2).mono ?_
      rintro e w5 ⟨rfl, rfl⟩
      go_wp2_with fail
      refine (zzfold_eq a1 k k f sU w5 hn ZU.out hb2).mono ?_
      rintro e w6 ⟨rfl, rfl⟩
      go_wp2
      go_ret
      exact ⟨by simp, HE.out⟩

set_option maxHeartbeats 400000 in
theorem law_lower (a : Option Addr) (n c : Nat) (f : Nat → Int) (w : World) (hn : n ≤ maxLen) (hb : BytesAt w a n f) (hnil : a = none → n = 0 ∧ c = 0) :
    Calls Try.prog 5 #[.slice a n c] w fun e w' => e = .returned (.bool true) ∧ Below w.heap.size w w' := by
  unfold maxLen at hn
  by_cases h1 : 1048576 < n
  · go_enter Try.func5, Try.ntmps5
    go_wp2
    go_ret
    exact ⟨rfl, Below.refl _ _⟩
  · exact law_lower_in a n c f w (by omega) hb hnil
end Go.Proofs.Qxb6604168a
