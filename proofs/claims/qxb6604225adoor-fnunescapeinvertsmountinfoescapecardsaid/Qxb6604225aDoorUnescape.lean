/-
  THE WALK of unescape (9) and of the shim ZZunescape (7).
-/
import Derived.Test.Qxb6604225aDoorParseOut
import Derived.Test.Qxb6604225aDoorBuilder
import Derived.Test.Qxb6604225aDoorPlainRun
import Derived.Lib.Strings
namespace Go.Proofs.Qxb6604225aDoor
open Go.RowKit

/-- Bytes as cells; as a string. -/
def cellsOf (l : List Int) : List Value := l.map (Value.int .u8)
def bytesOf (l : List Int) : List UInt8 := l.map fun x => UInt8.ofNat x.toNat

theorem cellsOf_bytes {l : List Int} (h : ∀ x ∈ l, 0 ≤ x ∧ x ≤ 255) : cellsOf l = Lib.byteCells (bytesOf l) := by
  unfold cellsOf Lib.byteCells bytesOf
  rw [List.map_map]
  apply List.map_congr_left
  intro x hx
  have := h x hx
  have h2 : x.toNat < 256 := by omega
  simp only [Function.comp, UInt8.toNat_ofNat', Nat.mod_eq_of_lt h2]
  congr 1
  omega

theorem cellsOf_snoc (l : List Int) (x : Int) : cellsOf l ++ [.int .u8 x] = cellsOf (l ++ [x]) := by simp [cellsOf]

theorem sb_extract (s : ByteArray) (a b j : Nat) (h1 : a + j < b) (h2 : b ≤ s.size) : sb (s.extract a b) j = sb s (a + j) := by
  have e : (s.extract a b).size = b - a := by simp; omega
  have hj : j < (s.extract a b).size := by omega
  have hj2 : a + j < s.size := by omega
  rw [← get_sb _ j hj, ← get_sb _ (a + j) hj2]
  congr 2
  exact ByteArray.getElem_extract hj

theorem stV_bound {s : ByteArray} {n k : Nat} : 0 ≤ stV (sb s) n k ∧ stV (sb s) n k ≤ 255 := by
  unfold stV
  split
  · rename_i h
    simp only [isEsc, Bool.and_eq_true] at h
    exact ok8_bound h.2
  · exact sb_bound s k

theorem isBuilder_below {B b : Nat} {bs : List Value} {w w' : World} (h : Lib.IsBuilder 28 5 B b bs w) (hb : Below w.heap.size w w') : Lib.IsBuilder 28 5 B b bs w' := by
  have key : ∀ p, Lib.BuilderAt 28 5 B b p bs w → Lib.BuilderAt 28 5 B b p bs w' := by
    intro p hp
    have hlt := hp.lt
    obtain ⟨hB, v, hbk, hown, hne⟩ := hp
    exact ⟨hB, v, (hb.block b hlt).trans hbk, hown.kept (row := none) ⟨hb.os, hb.tape, hb.output, hb.size, fun k hk _ => hb.block k hk⟩ (by cases v.ownBlock <;> simp), hne⟩
  rcases h with h | h
  · exact .inl (key _ h)
  · exact .inr (key _ h)

/-- One round's gain: the step's byte is written. -/
theorem rel_step {s : ByteArray} {j k : Nat} {l : List Int} (h : run (sb s) s.size j = (k, l)) (hk : k < s.size) (hl : ∀ x ∈ l, 0 ≤ x ∧ x ≤ 255) :
    run (sb s) s.size (j + 1) = (stK (sb s) s.size k, l ++ [stV (sb s) s.size k]) ∧ stK (sb s) s.size k ≤ s.size ∧ ∀ x ∈ l ++ [stV (sb s) s.size k], 0 ≤ x ∧ x ≤ 255 := by
  refine ⟨run_step h hk, stK_le hk, ?_⟩
  intro x hx
  rcases List.mem_append.1 hx with hx | hx
  · exact hl x hx
  · simp at hx
    subst hx
    exact stV_bound

set_option maxHeartbeats 1000000 in
theorem unescape_any (s : ByteArray) (hn : s.size ≤ 1048576) (w : World) (hS : Sents w) :
    Calls Tryd.prog 9 #[.string s] w fun e w' => ∃ j, (run (sb s) s.size j).1 = s.size ∧ e = .returned (.string ⟨(bytesOf (run (sb s) s.size j).2).toArray⟩) ∧ Below w.heap.size w w' := by
  have hsb := get_sb s
  go_enter Tryd.func9, Tryd.ntmps9
  go_wp2
  go_loopw [4] (fun i wr => ∃ (j k : Nat) (l : List Int), Hid (run (sb s) s.size j = (k, l)) ∧ k ≤ s.size ∧ i = .int .i64 k ∧ Lib.IsBuilder 28 5 w.heap.size w.heap.size (cellsOf l) wr ∧ Below w.heap.size w wr ∧ Hid (∀ x ∈ l, 0 ≤ x ∧ x ≤ 255)) (fun i _ => s.size - (intOf i).toNat)
  case atStart => exact ⟨0, 0, [], rfl, Nat.zero_le _, rfl, Lib.fresh_isBuilder 28 5 w, (Below.refl _ _).alloc (Nat.le_refl _) _, fun x hx => by cases hx⟩
  case round =>
    obtain ⟨j, k, l, hrun, hk, rfl, hI, hbel, hl⟩ := hrel
    have hlen : l.length ≤ k := by
      have := (run_len (sb s) s.size j).1
      rw [hrun.out] at this
      exact this
    have hBw : w.heap.size ≤ wr.heap.size := hbel.size
    have hcl : (cellsOf l).length = l.length := by simp [cellsOf]
    by_cases hlt : k < s.size
    · have hR := rel_step hrun.out hlt hl.out
      have HR : Hid (run (sb s) s.size (j + 1) = (stK (sb s) s.size k, l ++ [stV (sb s) s.size k]) ∧ stK (sb s) s.size k ≤ s.size ∧ ∀ x ∈ l ++ [stV (sb s) s.size k], 0 ≤ x ∧ x ≤ 255) := hR
      have hg0 := (sb_bound s k).1
      have hg1 := (sb_bound s k).2
      have hW : Hid ((cellsOf l).length + 1 ≤ 140737488355328) := by show _ ≤ _; rw [hcl]; omega
      clear hrun hl hR hcl
      cases hE : isEsc (sb s) s.size k with
      | false =>
        have hV : stV (sb s) s.size k = sb s k := by simp [stV, hE]
        have hK : stK (sb s) s.size k = k + 1 := by simp [stK, hE]
        have R : Hid (run (sb s) s.size (j + 1) = (k + 1, l ++ [sb s k]) ∧ ∀ x ∈ l ++ [sb s k], 0 ≤ x ∧ x ≤ 255) := by
          have := HR.out
          rw [hV, hK] at this
          exact ⟨this.1, this.2.2⟩
        clear hV hK HR
        by_cases h92 : sb s k = 92
        · have hq : (sb s k == 92) = true := by simp [h92]
          by_cases h4 : k + 4 ≤ s.size
          · have hno : ok8 (tail3 (sb s) k) = false := by simpa [isEsc, h92, h4] using hE
            have hcg := ok8_congr (g := sb (s.extract (k + 1) (k + 4))) (h := tail3 (sb s) k) (fun i hi => sb_extract s (k + 1) (k + 4) i (by omega) h4)
            have HNO : Hid (ok8 (sb (s.extract (k + 1) (k + 4))) = false) := hcg.1.trans hno
            have hS1 := hS.below hbel
            clear h92 hE hno hcg
            go_wp2_with fail
            refine (parse_any (s.extract (k + 1) (k + 4)) (by simp; omega) wr hS1).mono ?_
            rintro e w1 ⟨⟨hok, rfl⟩ | ⟨hok, n', N, rfl⟩, hb1⟩
            · rw [HNO.out] at hok
              cases hok
            · have hI1 := isBuilder_below hI hb1
              have hbel1 : Below w.heap.size w w1 := hbel.trans (hb1.mono hBw)
              have hBw1 : w.heap.size ≤ w1.heap.size := hbel1.size
              clear hok hb1 hI hbel hS1
              go_wp2_with fail
              refine (writeByte_any w.heap.size w.heap.size (cellsOf l) (sb s k) w1 hI1 hW.out hBw1).mono ?_
              rintro e w2 ⟨rfl, hI2, hb2⟩
              rw [cellsOf_snoc] at hI2
              have hbel2 : Below w.heap.size w w2 := hbel1.trans hb2
              clear hI1 hb2 hbel1
              go_wp2
              go_roundw
              case rel => exact ⟨j + 1, k + 1, l ++ [sb s k], R.out.1, by omega, by go_num, hI2, hbel2, R.out.2⟩
              case measure => simp [intOf]; omega
          · have hd : decide ((k : Int) + 4 ≤ (s.size : Int)) = false := by simp; omega
            clear h92 hE h4
            go_wp2_with fail
            refine (writeByte_any w.heap.size w.heap.size (cellsOf l) (sb s k) wr hI hW.out hBw).mono ?_
            rintro e w2 ⟨rfl, hI2, hb2⟩
            rw [cellsOf_snoc] at hI2
            have hbel2 : Below w.heap.size w w2 := hbel.trans hb2
            clear hI hb2 hbel
            go_wp2
            go_roundw
            case rel => exact ⟨j + 1, k + 1, l ++ [sb s k], R.out.1, by omega, by go_num, hI2, hbel2, R.out.2⟩
            case measure => simp [intOf]; omega
        · have hq : (sb s k == 92) = false := by simp [h92]
          clear h92 hE
          go_wp2_with fail
          refine (writeByte_any w.heap.size w.heap.size (cellsOf l) (sb s k) wr hI hW.out hBw).mono ?_
          rintro e w2 ⟨rfl, hI2, hb2⟩
          rw [cellsOf_snoc] at hI2
          have hbel2 : Below w.heap.size w w2 := hbel.trans hb2
          clear hI hb2 hbel
          go_wp2
          go_roundw
          case rel => exact ⟨j + 1, k + 1, l ++ [sb s k], R.out.1, by omega, by go_num, hI2, hbel2, R.out.2⟩
          case measure => simp [intOf]; omega
      | true =>
        have hE' := hE
        simp only [isEsc, Bool.and_eq_true, decide_eq_true_eq] at hE'
        obtain ⟨⟨h92, h4⟩, hok0⟩ := hE'
        have hq : (sb s k == 92) = true := by simp [h92]
        have hcg := ok8_congr (g := sb (s.extract (k + 1) (k + 4))) (h := tail3 (sb s) k) (fun i hi => sb_extract s (k + 1) (k + 4) i (by omega) h4)
        have hv := ok8_bound (hcg.1.trans hok0)
        have HOK : Hid (ok8 (sb (s.extract (k + 1) (k + 4))) = true) := hcg.1.trans hok0
        have R : Hid (run (sb s) s.size (j + 1) = (k + 4, l ++ [v8 (sb (s.extract (k + 1) (k + 4))) 3]) ∧ ∀ x ∈ l ++ [v8 (sb (s.extract (k + 1) (k + 4))) 3], 0 ≤ x ∧ x ≤ 255) := by
          have := HR.out
          have hV : stV (sb s) s.size k = v8 (sb (s.extract (k + 1) (k + 4))) 3 := by simp [stV, hE, hcg.2]
          have hK : stK (sb s) s.size k = k + 4 := by simp [stK, hE]
          rw [hV, hK] at this
          exact ⟨this.1, this.2.2⟩
        have hS1 := hS.below hbel
        clear h92 hE hok0 hcg HR
        go_wp2_with fail
        refine (parse_any (s.extract (k + 1) (k + 4)) (by simp; omega) wr hS1).mono ?_
        rintro e w1 ⟨⟨hok, rfl⟩ | ⟨hok, n', N, rfl⟩, hb1⟩
        · have hI1 := isBuilder_below hI hb1
          have hbel1 : Below w.heap.size w w1 := hbel.trans (hb1.mono hBw)
          have hBw1 : w.heap.size ≤ w1.heap.size := hbel1.size
          clear hok hb1 hI hbel hS1 HOK
          generalize v8 (sb (s.extract (k + 1) (k + 4))) 3 = v at hv R ⊢
          obtain ⟨hv0, hv1⟩ := hv
          go_wp2_with fail
          refine (writeByte_any w.heap.size w.heap.size (cellsOf l) v w1 hI1 hW.out hBw1).mono ?_
          rintro e w2 ⟨rfl, hI2, hb2⟩
          rw [cellsOf_snoc] at hI2
          have hbel2 : Below w.heap.size w w2 := hbel1.trans hb2
          clear hI1 hb2 hbel1
          go_wp2
          go_roundw
          case rel => exact ⟨j + 1, k + 4, l ++ [v], R.out.1, by omega, by go_num, hI2, hbel2, R.out.2⟩
          case measure => simp [intOf]; omega
        · rw [HOK.out] at hok
          cases hok
    · obtain rfl : k = s.size := by omega
      have hI1 : Lib.IsBuilder 28 5 w.heap.size w.heap.size (Lib.byteCells (bytesOf l)) wr := by rw [← cellsOf_bytes hl.out]; exact hI
      clear hI hcl
      go_wp2_with fail
      refine (Tryd.Builder_String_any w.heap.size w.heap.size (bytesOf l) wr hI1 hBw).mono ?_
      rintro e w2 ⟨rfl, hb2⟩
      have hbel2 : Below w.heap.size w w2 := hbel.trans hb2
      clear hI1 hb2 hbel
      go_wp2
      go_ret
      exact ⟨j, by rw [hrun.out], by rw [hrun.out]; rfl, hbel2⟩

set_option maxHeartbeats 1000000 in
theorem zzunescape_any (s : ByteArray) (hn : s.size ≤ 1048576) (w : World) (hS : Sents w) :
    Calls Tryd.prog 7 #[.string s] w fun e w' => ∃ j, (run (sb s) s.size j).1 = s.size ∧ e = .returned (.string ⟨(bytesOf (run (sb s) s.size j).2).toArray⟩) ∧ Below w.heap.size w w' := by
  go_enter Tryd.func7, Tryd.ntmps7
  go_wp2_with fail
  refine (unescape_any s hn w hS).mono ?_
  rintro e w1 ⟨j, hj, rfl, hb⟩
  have HJ : Hid ((run (sb s) s.size j).1 = s.size) := hj
  clear hj
  go_wp2
  go_ret
  exact ⟨j, HJ.out, rfl, hb⟩
end Go.Proofs.Qxb6604225aDoor
