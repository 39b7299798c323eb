/-
  THE WALK of zzEscapeMount (6).
-/
import Derived.Test.Qxb6604225aDoorUnescape
import Derived.Test.Qxb6604225aDoorPlainInv
import Derived.Laws.BytesArg
namespace Go.Proofs.Qxb6604225aDoor
open Go.RowKit

theorem new_cells (w : World) (l : List Value) : ∀ j u, l[j]? = some u → (w.alloc (.cells l.toArray 5)).cell? ((⟨w.heap.size, 0, none⟩ : Addr).add j) = some u := by
  intro j u hj
  rw [Addr.add_lit, Nat.zero_add, cell_of_row _ _ _ _ 5 (0, 0) (heap_alloc_new w _), List.getElem?_toArray]
  exact hj

theorem cellsOf_append (l r : List Int) : cellsOf l ++ cellsOf r = cellsOf (l ++ r) := by simp [cellsOf]

/-- One append behind the new block of its elements. -/
theorem push_below {G : Nat} {w1 wr w' : World} {o : Obj} (h : Below G w1 wr) (hG : G ≤ w1.heap.size) (hg : (wr.alloc o).grownBy w' (some G)) : Below G w1 w' := by
  have := h.size
  exact (h.alloc (by omega) o).grown hg (by simp; omega) (by intro k hk; cases hk; exact Nat.le_refl _)

set_option maxHeartbeats 1000000 in
theorem escape_any (t : ByteArray) (hn : t.size ≤ 262144) (w : World) :
    Calls Tryd.prog 6 #[.string t] w fun e w' => e = .returned (.string (strOfNums (escTo (sb t) t.size))) ∧ Below w.heap.size w w' := by
  obtain ⟨i0, hi, hz0, hz1, hz2⟩ := info_parts info5
  have hsb := get_sb t
  go_enter Tryd.func6, Tryd.ntmps6
  go_wp2_with (first | (at_make; refine wpList_make_own _ rfl _ _ 24 rfl w.heap.size 5 i0 (.int .u8 0) 1 Tryd.underlying24 hi hz0 hz1 _ _ _ (4 * t.size) rfl rfl (by omega) (by rw [hz2]; omega) (by unfold maxLen; omega) (Nat.le_refl _) ?_))
  intro w1 hown hgrow
  have hbel1 : Below w.heap.size w w1 := (Below.refl _ _).grown hgrow (Nat.le_refl _) (by simp)
  clear hgrow
  go_wp2
  go_loopw [3, 4] (fun v i wr => ∃ (k m : Nat) (l : List Int), Hid (l = escTo (sb t) k ∧ m = l.length) ∧ k ≤ t.size ∧ m ≤ 4 * k ∧ i = .int .i64 k ∧ v = .slice (some ⟨w.heap.size, 0, none⟩) m (4 * t.size) ∧ wr.ownsRow w.heap.size 5 1 (.slice (some ⟨w.heap.size, 0, none⟩) m (4 * t.size)) m (cellsOf l) ∧ Below w.heap.size w wr) (fun _ i _ => t.size - (intOf i).toNat)
  case atStart => exact ⟨0, 0, [], ⟨rfl, rfl⟩, Nat.zero_le _, Nat.zero_le _, rfl, rfl, hown, hbel1⟩
  case round =>
    clear hown hbel1
    obtain ⟨k, m, l, hl, hk, hm, rfl, rfl, hown, hbel⟩ := hrel
    by_cases hlt : k < t.size
    · have hg0 := (sb_bound t k).1
      have hg1 := (sb_bound t k).2
      by_cases hc : sb t k = 32
      · have R : Hid (escTo (sb t) (k + 1) = l ++ [92, 48, 52, 48]) := by show _ = _; simp only [escTo]; rw [hc, ← hl.out.1]; rfl
        have HM : Hid (m = l.length) := hl.out.2
        clear hl hg0 hg1
        go_wp2_with (first | (at_builtin; refine wpList_append_fits _ rfl _ _ 24 rfl w.heap.size 5 i0 1 Tryd.underlying24 hi hz1 w.heap.size m (4 * t.size) (cellsOf l) rfl (hown.alloc _) ⟨wr.heap.size, 0, none⟩ 4 4 (cellsOf [92, 48, 52, 48]) rfl rfl (new_cells wr _) (ints_oneCell _ _) (by omega) ?_))
        intro w' hown' hgrow
        rw [cellsOf_append] at hown'
        have hbel' := push_below hbel (Nat.le_refl _) hgrow
        clear hgrow hown hbel
        go_wp2
        go_roundw
        case rel => exact ⟨k + 1, m + 4, l ++ [92, 48, 52, 48], ⟨R.out.symm, by rw [HM.out]; simp⟩, by omega, by omega, by go_num, rfl, hown', hbel'⟩
        case measure => simp [intOf]; omega
      by_cases hc : sb t k = 9
      · have R : Hid (escTo (sb t) (k + 1) = l ++ [92, 48, 49, 49]) := by show _ = _; simp only [escTo]; rw [hc, ← hl.out.1]; rfl
        have HM : Hid (m = l.length) := hl.out.2
        clear hl hg0 hg1
        go_wp2_with (first | (at_builtin; refine wpList_append_fits _ rfl _ _ 24 rfl w.heap.size 5 i0 1 Tryd.underlying24 hi hz1 w.heap.size m (4 * t.size) (cellsOf l) rfl (hown.alloc _) ⟨wr.heap.size, 0, none⟩ 4 4 (cellsOf [92, 48, 49, 49]) rfl rfl (new_cells wr _) (ints_oneCell _ _) (by omega) ?_))
        intro w' hown' hgrow
        rw [cellsOf_append] at hown'
        have hbel' := push_below hbel (Nat.le_refl _) hgrow
        clear hgrow hown hbel
        go_wp2
        go_roundw
        case rel => exact ⟨k + 1, m + 4, l ++ [92, 48, 49, 49], ⟨R.out.symm, by rw [HM.out]; simp⟩, by omega, by omega, by go_num, rfl, hown', hbel'⟩
        case measure => simp [intOf]; omega
      by_cases hc : sb t k = 10
      · have R : Hid (escTo (sb t) (k + 1) = l ++ [92, 48, 49, 50]) := by show _ = _; simp only [escTo]; rw [hc, ← hl.out.1]; rfl
        have HM : Hid (m = l.length) := hl.out.2
        clear hl hg0 hg1
        go_wp2_with (first | (at_builtin; refine wpList_append_fits _ rfl _ _ 24 rfl w.heap.size 5 i0 1 Tryd.underlying24 hi hz1 w.heap.size m (4 * t.size) (cellsOf l) rfl (hown.alloc _) ⟨wr.heap.size, 0, none⟩ 4 4 (cellsOf [92, 48, 49, 50]) rfl rfl (new_cells wr _) (ints_oneCell _ _) (by omega) ?_))
        intro w' hown' hgrow
        rw [cellsOf_append] at hown'
        have hbel' := push_below hbel (Nat.le_refl _) hgrow
        clear hgrow hown hbel
        go_wp2
        go_roundw
        case rel => exact ⟨k + 1, m + 4, l ++ [92, 48, 49, 50], ⟨R.out.symm, by rw [HM.out]; simp⟩, by omega, by omega, by go_num, rfl, hown', hbel'⟩
        case measure => simp [intOf]; omega
      by_cases hc : sb t k = 92
      · have R : Hid (escTo (sb t) (k + 1) = l ++ [92, 49, 51, 52]) := by show _ = _; simp only [escTo]; rw [hc, ← hl.out.1]; rfl
        have HM : Hid (m = l.length) := hl.out.2
        clear hl hg0 hg1
        go_wp2_with (first | (at_builtin; refine wpList_append_fits _ rfl _ _ 24 rfl w.heap.size 5 i0 1 Tryd.underlying24 hi hz1 w.heap.size m (4 * t.size) (cellsOf l) rfl (hown.alloc _) ⟨wr.heap.size, 0, none⟩ 4 4 (cellsOf [92, 49, 51, 52]) rfl rfl (new_cells wr _) (ints_oneCell _ _) (by omega) ?_))
        intro w' hown' hgrow
        rw [cellsOf_append] at hown'
        have hbel' := push_below hbel (Nat.le_refl _) hgrow
        clear hgrow hown hbel
        go_wp2
        go_roundw
        case rel => exact ⟨k + 1, m + 4, l ++ [92, 49, 51, 52], ⟨R.out.symm, by rw [HM.out]; simp⟩, by omega, by omega, by go_num, rfl, hown', hbel'⟩
        case measure => simp [intOf]; omega
      have q1 : (sb t k == 32) = false := by simp; omega
      have q2 : (sb t k == 9) = false := by simp; omega
      have q3 : (sb t k == 10) = false := by simp; omega
      have q4 : (sb t k == 92) = false := by simp; omega
      have R : Hid (escTo (sb t) (k + 1) = l ++ [sb t k]) := by
        show _ = _
        simp only [escTo]
        rw [← hl.out.1]
        congr 1
        unfold escB
        rw [if_neg (by omega), if_neg (by omega), if_neg (by omega), if_neg (by omega)]
      have HM : Hid (m = l.length) := hl.out.2
      clear hl
      go_wp2_with (first | (at_builtin; refine wpList_append_fits _ rfl _ _ 24 rfl w.heap.size 5 i0 1 Tryd.underlying24 hi hz1 w.heap.size m (4 * t.size) (cellsOf l) rfl (hown.alloc _) ⟨wr.heap.size, 0, none⟩ 1 1 (cellsOf [sb t k]) rfl rfl (new_cells wr _) (ints_oneCell _ _) (by omega) ?_))
      intro w' hown' hgrow
      rw [cellsOf_append] at hown'
      have hbel' := push_below hbel (Nat.le_refl _) hgrow
      clear hgrow hown hbel
      go_wp2
      go_roundw
      case rel => exact ⟨k + 1, m + 1, l ++ [sb t k], ⟨R.out.symm, by rw [HM.out]; simp⟩, by omega, by omega, by go_num, rfl, hown', hbel'⟩
      case measure => simp [intOf]; omega
    · obtain rfl : k = t.size := by omega
      have hconv : (convert 24 9 (.slice (some ⟨w.heap.size, 0, none⟩) m (4 * t.size))).run Tryd.prog wr = .ok (.string (strOfNums l)) wr := by
        refine run_convert_bytes_arg wr 24 5 Tryd.underlying24 Tryd.underlying5 w.heap.size 0 m (4 * t.size) l hl.out.2.symm (fun i hi => ?_) 9 Tryd.underlying9
        have hil : i < l.length := by rw [← hl.out.2]; exact hi
        rw [Nat.zero_add, hown.cellAt i (by omega)]
        simp [cellsOf, List.getD, List.getElem?_eq_getElem hil]
      clear hown
      go_wp2
      go_ret
      exact ⟨by rw [hl.out.1]; rfl, hbel⟩
end Go.Proofs.Qxb6604225aDoor
