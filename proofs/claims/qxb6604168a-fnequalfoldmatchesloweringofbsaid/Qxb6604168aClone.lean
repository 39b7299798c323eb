/-
  THE WALK of cloneBytes_h1b1 (10): a fresh slice of the same bytes; nothing that was there turns.
-/
import Derived.Test.Qxb6604168aParse
import Derived.Lib.SliceRun
namespace Go.Proofs.Qxb6604168a
open Go.RowKit

theorem info5 : (Try.prog.info? 5).map (fun i => (i.zero, i.size, i.bytes)) = some (some (.int .u8 0), 1, 1) := by kernel_rfl

/-- The cells of a row of bytes. -/
def rowOf (n : Nat) (g : Nat → Int) : List Value := (List.range n).map fun j => Value.int .u8 (g j)

theorem rowOf_length (n : Nat) (g : Nat → Int) : (rowOf n g).length = n := by simp [rowOf]

theorem rowOf_get (n : Nat) (g : Nat → Int) (j : Nat) (h : j < n) : (rowOf n g)[j]? = some (.int .u8 (g j)) := by
  simp [rowOf, h]

theorem rowOf_set (n : Nat) (g g' : Nat → Int) (k : Nat) (hk : k < n) (h : ∀ j, j ≠ k → g' j = g j) : (rowOf n g).set k (.int .u8 (g' k)) = rowOf n g' := by
  apply List.ext_getElem?
  intro j
  rw [List.getElem?_set]
  by_cases hj : j < n
  · rw [rowOf_get n g' j hj]
    by_cases e : k = j
    · subst e
      simp [rowOf_length, hk]
    · rw [if_neg e, rowOf_get n g j hj, h j (fun x => e x.symm)]
  · have h1 : (rowOf n g)[j]? = none := List.getElem?_eq_none (by rw [rowOf_length]; omega)
    have h2 : (rowOf n g')[j]? = none := List.getElem?_eq_none (by rw [rowOf_length]; omega)
    rw [h1, h2]
    by_cases e : k = j
    · omega
    · rw [if_neg e]

theorem rowOf_zero (n : Nat) : (madeCells #[Value.int IntKind.u8 0] n).toList = rowOf n fun _ => 0 := by
  rw [toList_madeCells_one]
  apply List.ext_getElem?
  intro j
  by_cases h : j < n
  · rw [rowOf_get _ _ _ h]; simp [h]
  · rw [List.getElem?_eq_none (by simp; omega), List.getElem?_eq_none (by rw [rowOf_length]; omega)]

/-- What a row of the call's own reads as. -/
theorem bytesAt_of_owns {w : World} {base g n cap : Nat} {f : Nat → Int} (hf : ∀ i, 0 ≤ f i ∧ f i ≤ 255) (h : w.ownsRow base 5 1 (.slice (some ⟨g, 0, none⟩) n cap) n (rowOf n f)) : BytesAt w (some ⟨g, 0, none⟩) n f := by
  refine ⟨hf, fun _ => ⟨g, 0, rfl, fun i hi => ?_⟩⟩
  rw [Nat.zero_add, h.cellAt i (by omega), rowOf_get _ _ _ hi]

theorem BytesAt.below {w w' : World} {a : Option Addr} {n : Nat} {f : Nat → Int} (h : BytesAt w a n f) (hb : Below w.heap.size w w') : BytesAt w' a n f := by
  refine ⟨h.1, fun hn => ?_⟩
  obtain ⟨b, off, rfl, hc⟩ := h.2 hn
  refine ⟨b, off, rfl, fun i hi => ?_⟩
  have := World.block_lt_of_cell? w _ (hc i hi)
  rw [hb.cell (p := ⟨b, off + i, none⟩) this]
  exact hc i hi

theorem Below.chain {w w1 w2 : World} (h : Below w.heap.size w w1) (k : Below w1.heap.size w1 w2) : Below w.heap.size w w2 :=
  h.trans (k.mono h.size)

set_option maxHeartbeats 400000 in
theorem clone_any (a : Option Addr) (n c : Nat) (f : Nat → Int) (w : World) (hn : n ≤ 1048576) (hnil : a = none → n = 0 ∧ c = 0) (hb : BytesAt w a n f) :
    Calls Try.prog 10 #[.slice a n c] w fun e w' => ∃ a', e = .returned (.slice a' n n) ∧ BytesAt w' a' n f ∧ Below w.heap.size w w' := by
  have q22 : ∀ (w : World) (a : Option Addr) (n c n' c' : Nat), (binOp .eql 22 (.slice a n c) (.slice none n' c')).run Try.prog w = .ok (.bool a.isNone) w := fun w a n c n' c' => Lib.run_eql_slice_nil w _ _ a n c n' c' Try.underlying22
  obtain ⟨i0, hi, hz0, hz1, hz2⟩ := info_parts info5
  cases a with
  | none =>
    obtain ⟨rfl, rfl⟩ := hnil rfl
    go_enter Try.func10, Try.ntmps10
    go_wp2
    go_ret
    exact ⟨none, rfl, hb, Below.refl _ _⟩
  | some ad =>
    clear hnil
    go_enter Try.func10, Try.ntmps10
    go_wp2_with (first | (at_make; refine wpList_make_full _ rfl _ _ 22 rfl w.heap.size 5 i0 (.int .u8 0) 1 Try.underlying22 hi hz0 hz1 _ _ _ _ n rfl rfl rfl rfl (by rw [hz2]; omega) (by unfold maxLen; omega) (Nat.le_refl _) ?_))
    intro w1 hown hgrow
    rw [rowOf_zero] at hown
    have hbel : Below w.heap.size w w1 := (Below.refl _ _).grown hgrow (Nat.le_refl _) (by simp)
    clear hgrow
    go_wp2
    go_loopw [4] (fun i wr => ∃ k : Nat, k ≤ n ∧ i = .int .i64 k ∧ wr.ownsRow w.heap.size 5 1 (.slice (some ⟨w.heap.size, 0, none⟩) n n) n (rowOf n fun j => if j < k then f j else 0) ∧ Below w.heap.size w wr) (fun i _ => n - (intOf i).toNat)
    case atStart => exact ⟨0, Nat.zero_le _, rfl, by simpa using hown, hbel⟩
    case round =>
      clear hown hbel
      obtain ⟨k, hk, rfl, hown, hbel⟩ := hrel
      by_cases hlt : k < n
      · obtain ⟨b, off, hab, hc⟩ := hb.2 (by omega)
        obtain rfl := Option.some.inj hab
        have hck := hc k hlt
        have hbl := World.block_lt_of_cell? w _ hck
        have hck' : wr.cell? ⟨b, off + k, none⟩ = some (.int .u8 (f k)) := (hbel.cell (p := ⟨b, off + k, none⟩) hbl).trans hck
        have hfz := hown.frozenAt k
        have hold : wr.cell? ⟨w.heap.size, k, none⟩ = some (.int .u8 0) := by
          rw [hown.cellAt k (by omega), rowOf_get _ _ _ hlt]
          simp
        have R1 : (wr.setCell ⟨w.heap.size, k, none⟩ (.int .u8 (f k))).ownsRow w.heap.size 5 1 (.slice (some ⟨w.heap.size, 0, none⟩) n n) n (rowOf n fun j => if j < k + 1 then f j else 0) := by
          have := (hown.stored k (.int .u8 (f k))).1
          have e := rowOf_set n (fun j => if j < k then f j else 0) (fun j => if j < k + 1 then f j else 0) k hlt (fun j hj => by
            by_cases h1 : j < k
            · simp [h1, show j < k + 1 by omega]
            · simp [h1, show ¬ j < k + 1 by omega])
          simp only [show k < k + 1 by omega, if_true] at e
          rw [e] at this
          exact this
        have R2 : Below w.heap.size w (wr.setCell ⟨w.heap.size, k, none⟩ (.int .u8 (f k))) := hbel.setCell (Nat.le_refl _) _
        have R : Hid (_ ∧ _) := ⟨R1, R2⟩
        clear R1 R2 hown hbel hck hc hb
        go_wp2
        go_roundw
        case rel => exact ⟨k + 1, by omega, by go_num, R.out.1, R.out.2⟩
        case measure => simp [intOf]; omega
      · obtain rfl : k = n := by omega
        have R : Hid (BytesAt wr (some ⟨w.heap.size, 0, none⟩) k f) := by
          refine bytesAt_of_owns (base := w.heap.size) (cap := k) hb.1 ?_
          have e : (rowOf k fun j => if j < k then f j else 0) = rowOf k f := by
            unfold rowOf
            apply List.map_congr_left
            intro j hj
            simp at hj
            simp [hj]
          rw [e] at hown
          exact hown
        clear hown hb
        go_wp2
        go_ret
        exact ⟨_, rfl, R.out, hbel⟩
end Go.Proofs.Qxb6604168a
