/-
  WHAT THE ROWS' CONDITION 'laid' GIVES THE WALKS: the two sentinels' variables hold interface values; and the heap that the door's own run leaves meets the condition.
-/
import Derived.Test.Qxb6604225aDoorParseOut
import Derived.ProofKit
import Derived.LaidMore
import Derived.MakeChecks
import Derived.Stop.LaidErr
namespace Go.Proofs.Qxb6604225aDoor
open Go.ChangeShapes Go.WideShapes Go.RowKit

theorem gES : Tryd.prog.globalNamed "strconv.ErrSyntax" = some 0 := by kernel_rfl
theorem gER : Tryd.prog.globalNamed "strconv.ErrRange" = some 1 := by kernel_rfl
theorem gESType : (Tryd.prog.globals[0]?).map (·.type) = some 31 := by kernel_rfl
theorem gERType : (Tryd.prog.globals[1]?).map (·.type) = some 31 := by kernel_rfl

theorem sents_of_laid {W : World} (h0 : laidMetH Tryd.prog Rows.fnUnescapeLengthBoundsRow.laid W) : Sents W := by
  rw [MakeChecks.laidMetH_plain _ _ _ (by kernel_rfl)] at h0
  have h1 : laidMet Tryd.prog (_ :: _ :: _ :: ("strconv.ErrRange", Rows.laid_strconv_ErrRange) :: ("strconv.ErrSyntax", Rows.laid_strconv_ErrSyntax) :: []) W := h0
  obtain ⟨ps, ⟨g3, t3, cs3, f3, p3, q3, hg3, ht3, hv3, hd3, ⟨g4, t4, cs4, f4, p4, q4, hg4, ht4, hv4, hd4, _, _⟩, _⟩, _, _⟩ := h1.tail.tail.tail
  obtain rfl := Option.some.inj (gER.symm.trans hg3)
  obtain rfl := Option.some.inj (gES.symm.trans hg4)
  obtain rfl := Option.some.inj (gERType.symm.trans ht3)
  obtain rfl := Option.some.inj (gESType.symm.trans ht4)
  obtain ⟨_, u3, v3, e3, _, _⟩ := iface_of_trod Tryd.underlying31 hd3
  obtain ⟨_, u4, v4, e4, _, _⟩ := iface_of_trod Tryd.underlying31 hd4
  have c3 := World.var?_cell hg3 hv3 0
  have c4 := World.var?_cell hg4 hv4 0
  obtain ⟨l3⟩ := cs3
  obtain ⟨l4⟩ := cs4
  simp only at e3 e4
  subst e3
  subst e4
  exact ⟨⟨u4, v4, by simpa using c4⟩, u3, v3, by simpa using c3⟩

/-- The door's own heap meets the condition: closed facts. -/
theorem door_met (os : Os) (args : Array Value) : laidMetH Tryd.prog Rows.fnUnescapeLengthBoundsRow.laid ((World.doorLaid Tryd.prog 62 os).forCall (fun _ _ => 0) ⟨#[], args, []⟩).memory :=
  laidMetH_of_parts3 (fuel := 8) (laidMet_of_run' 8 (by kernel_rfl) (by kernel_rfl)) (by kernel_rfl) (by kernel_rfl)
end Go.Proofs.Qxb6604225aDoor
