/-
  THE WALKS of internal/strconv.ParseUint (13) and strconv.ParseUint (10) at three bytes, base 8, bit size 8.
-/
import Derived.Test.Qxb6604225aDoorRows
import Derived.Test.Qxb6604225aDoorPlain
import Derived.WalkKit
import Derived.WalkSpells
import Derived.WalkLawsBesides
import Derived.Lib.ConvBytes
import Derived.Laws.BitsLemmas
namespace Go.Proofs.Qxb6604225aDoor
open Go.RowKit

/-- Byte k of a string, as a number; 0 behind its end. -/
def sb (s : ByteArray) (k : Nat) : Int := if h : k < s.size then ((s[k]'h).toNat : Int) else 0
theorem get_sb (s : ByteArray) : ∀ (n : Nat) (h : n < s.size), ((s[n]'h).toNat : Int) = sb s n := fun n h => by unfold sb; rw [dif_pos h]
theorem sb_bound (s : ByteArray) (k : Nat) : 0 ≤ sb s k ∧ sb s k ≤ 255 := by
  unfold sb
  split
  · have := (s[k]).toNat_lt; omega
  · omega

/-- The bit 32 set. -/
def lowC (c : Int) : Int := bits .or .u8 c 32
theorem lowC_bound (c : Int) : 0 ≤ lowC c ∧ lowC c ≤ 255 := ⟨bits_lo_u8 .or c 32, bits_hi_u8 .or c 32⟩

set_option maxHeartbeats 400000 in
theorem lower_any (c : Int) (w : World) : Calls Tryd.prog 16 #[.int .u8 c] w fun e w' => e = .returned (.int .u8 (lowC c)) ∧ w' = w := by
  go_enter Tryd.func16, Tryd.ntmps16
  go_wp2
  go_ret
  exact ⟨rfl, rfl⟩

theorem sb_cell (t : ByteArray) (j : Nat) (hj : j < t.size) : ((t.data.toList.getD j 0).toNat : Int) = sb t j := by
  rw [← get_sb t j hj]
  have : t.data.toList.getD j 0 = t[j] := by
    have hj' : j < t.data.toList.length := by simpa using hj
    simp [List.getD, List.getElem?_eq_getElem hj']
    rfl
  rw [this]

set_option maxHeartbeats 1000000 in
set_option maxRecDepth 100000 in
theorem inner_any (t : ByteArray) (h3 : t.size = 3) (w : World) :
    Calls Tryd.prog 13 #[.string t, .int .i64 8, .int .i64 8] w fun e w' =>
      ((ok8 (sb t) = true ∧ e = .returned (.tuple #[.int .u64 (v8 (sb t) 3), .nilIface])) ∨
        (ok8 (sb t) = false ∧ ∃ (n c : Int), e = .returned (.tuple #[.int .u64 n, .iface 38 (.int .i64 c)]) ∧ (c = 1 ∨ c = 2))) ∧ w' = Lib.bytesWorld w 5 t := by
  have hemp : t.toList.isEmpty = false := by
    rw [← decide_eq_emptyBytes]
    exact decide_eq_false (fun h => by rw [h] at h3; cases h3)
  have hcv := Lib.run_convert_string_bytes (P := Tryd.prog) w 9 24 5 t (u := .string) Tryd.underlying9 Tryd.underlying24 Tryd.underlying5
  have hB : ∀ j, j < t.size → (Lib.bytesWorld w 5 t).cell? ⟨w.heap.size, j, none⟩ = some (.int .u8 (sb t j)) := fun j hj => by rw [Lib.bytesWorld_cell w 5 t j hj, sb_cell t j hj]
  obtain ⟨W1, hW1⟩ : ∃ W1, W1 = Lib.bytesWorld w 5 t := ⟨_, rfl⟩
  rw [← hW1] at hcv hB ⊢
  clear hW1
  obtain ⟨g, hg⟩ : ∃ g, g = sb t := ⟨_, rfl⟩
  have hgb : ∀ k, 0 ≤ g k ∧ g k ≤ 255 := fun k => by rw [hg]; exact sb_bound t k
  rw [← hg] at hB ⊢
  clear hg
  have hmv : IntKind.u64.wrap (IntKind.u64.wrap 256 - 1) = 255 := by
    rw [IntKind.wrap_u64, IntKind.wrap_u64]
    decide
  go_enter Tryd.func13, Tryd.ntmps13
  go_wp2
  go_loop [12, 13, 101] (fun vu vn vi => ∃ k : Nat, k ≤ 3 ∧ vu = .bool false ∧ vn = .int .u64 (v8 g k) ∧ vi = .int .i64 k ∧ Hid (octs g k = true ∧ v8 g k ≤ 255)) (fun _ _ vi => 3 - (intOf vi).toNat)
  case atStart => exact ⟨0, Nat.zero_le _, rfl, rfl, rfl, rfl, by simp [v8]⟩
  case round =>
    obtain ⟨k, hk, rfl, rfl, rfl, hh⟩ := hrel
    have hv0 := (v8_bound k hh.out.1).1
    have hv1 := hh.out.2
    by_cases hkn : k < 3
    · have hc := hB k (by omega)
      have hsm := v8_small hh.out.1 (show k ≤ 2 by omega)
      have hg0 := (hgb k).1
      have hg1 := (hgb k).2
      have HV : Hid (v8 g (k + 1) = v8 g k * 8 + (g k - 48)) := rfl
      clear hB hgb hv1
      by_cases hdig : 48 ≤ g k ∧ g k ≤ 55
      · obtain ⟨hd0, hd1⟩ := hdig
        by_cases hov : 255 < v8 g k * 8 + (g k - 48)
        · have HO : Hid (ok8 g = false) := by
            show _ = _
            by_cases h2 : k = 2
            · subst h2
              have : ¬ v8 g 3 ≤ 255 := by rw [HV.out]; omega
              simp [ok8, this]
            · exfalso
              have := v8_small (k := k + 1) (g := g) (by simp [octs, hh.out.1, hd0, hd1]) (by omega)
              rw [HV.out] at this
              omega
          go_wp2
          go_ret2
          exact ⟨.inr ⟨HO.out, _, _, rfl, .inl rfl⟩, rfl⟩
        · have HN : Hid (octs g (k + 1) = true ∧ v8 g (k + 1) ≤ 255) := ⟨by simp [octs, hh.out.1, hd0, hd1], by rw [HV.out]; omega⟩
          go_wp2
          go_round
          case rel => exact ⟨k + 1, by omega, rfl, by rw [HV.out], by go_num, HN⟩
          case measure => simp [intOf]; omega
      · have HO : Hid (ok8 g = false) := ok8_stop hkn hdig
        have hl0 := (lowC_bound (g k)).1
        have hl1 := (lowC_bound (g k)).2
        rcases (show g k < 48 ∨ (48 ≤ g k ∧ g k ≤ 57 ∧ 56 ≤ g k) ∨ 58 ≤ g k by omega) with h | ⟨h, h', h''⟩ | h
        · clear hdig
          go_wp2_with (go_at_call 16; refine (lower_any _ _).mono ?_; rintro e w' ⟨rfl, rfl⟩)
          all_goals go_ret2
          all_goals exact ⟨.inr ⟨HO.out, _, _, rfl, .inr rfl⟩, rfl⟩
        · clear hdig
          go_wp2_with (go_at_call 16; refine (lower_any _ _).mono ?_; rintro e w' ⟨rfl, rfl⟩)
          all_goals go_ret2
          all_goals exact ⟨.inr ⟨HO.out, _, _, rfl, .inr rfl⟩, rfl⟩
        · clear hdig
          go_wp2_with (go_at_call 16; refine (lower_any _ _).mono ?_; rintro e w' ⟨rfl, rfl⟩)
          all_goals go_ret2
          all_goals exact ⟨.inr ⟨HO.out, _, _, rfl, .inr rfl⟩, rfl⟩
    · obtain rfl : k = 3 := by omega
      have HO : Hid (ok8 g = true) := by show _ = _; simp [ok8, hh.out.1, hh.out.2]
      clear hB hgb
      go_wp2
      go_ret2
      exact ⟨.inl ⟨HO.out, rfl⟩, rfl⟩
end Go.Proofs.Qxb6604225aDoor
