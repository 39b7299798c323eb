/-
  THE LAW's WALK: FnUnescapeInvertsMountinfoEscape (3).
-/
import Derived.Test.Qxb6604225aDoorEscape
namespace Go.Proofs.Qxb6604225aDoor
open Go.RowKit

theorem escB_bound {c : Int} (h : 0 ≤ c ∧ c ≤ 255) : ∀ x ∈ escB c, 0 ≤ x ∧ x ≤ 255 := by
  unfold escB
  intro x hx
  split at hx
  · simp at hx; omega
  · split at hx
    · simp at hx; omega
    · split at hx
      · simp at hx; omega
      · split at hx
        · simp at hx; omega
        · simp at hx; omega

theorem escTo_bound {g : Nat → Int} (h : ∀ i, 0 ≤ g i ∧ g i ≤ 255) : ∀ n, ∀ x ∈ escTo g n, 0 ≤ x ∧ x ≤ 255 := by
  intro n
  induction n with
  | zero => intro x hx; cases hx
  | succ n ih =>
    intro x hx
    simp only [escTo] at hx
    rcases List.mem_append.1 hx with hx | hx
    · exact ih x hx
    · exact escB_bound (h n) x hx

theorem sb_nums {l : List Int} (h : ∀ x ∈ l, 0 ≤ x ∧ x ≤ 255) : sb (strOfNums l) = fun k => l.getD k 0 := by
  funext k
  by_cases hk : k < l.length
  · have hk' : k < (strOfNums l).size := by rw [strOfNums_size]; exact hk
    rw [← get_sb _ k hk']
    have e : (strOfNums l)[k] = UInt8.ofNat (l[k]).toNat := by
      show (strOfNums l).data[k] = _
      simp [strOfNums]
    rw [e]
    have hb := h l[k] (List.getElem_mem hk)
    have h2 : (l[k]).toNat < 256 := by omega
    rw [UInt8.toNat_ofNat', Nat.mod_eq_of_lt h2]
    simp only [List.getD, List.getElem?_eq_getElem hk, Option.getD_some]
    omega
  · unfold sb
    rw [dif_neg (by rw [strOfNums_size]; exact hk)]
    simp only [List.getD, List.getElem?_eq_none (show l.length ≤ k by omega), Option.getD_none]

/-- The bytes of a string, written again, are the string. -/
theorem bytes_back (t : ByteArray) : (⟨(bytesOf ((List.range t.size).map (sb t))).toArray⟩ : ByteArray) = t := by
  obtain ⟨d⟩ := t
  congr 1
  apply Array.ext'
  apply List.ext_getElem?
  intro k
  unfold bytesOf
  by_cases hk : k < d.size
  · have hk' : k < (ByteArray.mk d).size := hk
    have e : sb ⟨d⟩ k = (d[k].toNat : Int) := (get_sb ⟨d⟩ k hk').symm
    have e1 : (List.range (ByteArray.mk d).size)[k]? = some k := by simp [List.getElem?_range hk']
    simp only [List.getElem?_map, e1, Option.map_some]
    rw [e]
    have e2 : d.toList[k]? = some d[k] := by simp [hk]
    rw [e2]
    simp
  · have hz : (ByteArray.mk d).size ≤ k := by show d.size ≤ k; omega
    rw [List.getElem?_eq_none (by simpa using hz), List.getElem?_eq_none (by rw [Array.length_toList]; omega)]

/-- What unescape gives of the escape. -/
theorem inv_back (t : ByteArray) (j : Nat) (hj : (run (sb (strOfNums (escTo (sb t) t.size))) (strOfNums (escTo (sb t) t.size)).size j).1 = (strOfNums (escTo (sb t) t.size)).size) :
    (⟨(bytesOf (run (sb (strOfNums (escTo (sb t) t.size))) (strOfNums (escTo (sb t) t.size)).size j).2).toArray⟩ : ByteArray) = t := by
  have e : sb (strOfNums (escTo (sb t) t.size)) = eb (sb t) t.size := sb_nums (escTo_bound (sb_bound t) t.size)
  rw [e, strOfNums_size] at hj ⊢
  rw [run_end (sb t) t.size j hj]
  exact bytes_back t

set_option maxHeartbeats 1000000 in
theorem law_inv (t : ByteArray) (ht : t.size ≤ maxLen) (w : World) (hS : Sents w) :
    Calls Tryd.prog 3 #[.string t] w fun e w' => e = .returned (.bool true) ∧ Below w.heap.size w w' := by
  unfold maxLen at ht
  by_cases h1 : 1048576 < t.size
  · go_enter Tryd.func3, Tryd.ntmps3
    go_wp2
    go_ret
    exact ⟨rfl, Below.refl _ _⟩
  by_cases h2 : 262144 < t.size
  · go_enter Tryd.func3, Tryd.ntmps3
    go_wp2
    go_ret
    exact ⟨rfl, Below.refl _ _⟩
  have hz : (strOfNums (escTo (sb t) t.size)).size ≤ 1048576 := by
    rw [strOfNums_size]
    have := (escTo_len (sb t) t.size).2
    omega
  have HI := inv_back t
  have HH : Hid (∀ j, (run (sb (strOfNums (escTo (sb t) t.size))) (strOfNums (escTo (sb t) t.size)).size j).1 = (strOfNums (escTo (sb t) t.size)).size → (⟨(bytesOf (run (sb (strOfNums (escTo (sb t) t.size))) (strOfNums (escTo (sb t) t.size)).size j).2).toArray⟩ : ByteArray) = t) := HI
  clear HI
  go_enter Tryd.func3, Tryd.ntmps3
  go_wp2_with ((go_at_call 5; go_in))
  refine (escape_any t (by omega) w).mono ?_
  rintro e w1 ⟨rfl, hb1⟩
  have hS1 := hS.below hb1
  generalize strOfNums (escTo (sb t) t.size) = es at hz HH ⊢
  go_wp2_with fail
  refine (zzunescape_any es hz w1 hS1).mono ?_
  rintro e w2 ⟨j, hj, rfl, hb2⟩
  rw [HH.out j hj]
  have hbel : Below w.heap.size w w2 := Below.chain hb1 hb2
  clear hj HH hb1 hb2
  go_wp2
  go_ret
  exact ⟨by simp, hbel⟩
end Go.Proofs.Qxb6604225aDoor
