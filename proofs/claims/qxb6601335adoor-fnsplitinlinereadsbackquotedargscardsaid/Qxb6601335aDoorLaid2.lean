/-
  What the rows' list of package-level variables gives the walks: the cell of strconv.ErrSyntax; and a world in which the list is met (the witness).
-/
import Derived.Test.Qxb6601335aDoorRows
import Derived.ProofKit
import Derived.LaidMore
import Derived.OpenShut
import Derived.Stop.Joined
import Derived.Stop.LaidErr
import Derived.LaidLaws
namespace Go.Proofs.Qxb6601335aDoor
open Go.ChangeShapes Go.WideShapes Go.ChangeAt Go.RowKit

theorem own : ownKnob Tryd.prog.godebug = none := by kernel_rfl
theorem laidOut : laidOutB Tryd.prog = true := by kernel_rfl
theorem gES : Tryd.prog.globalNamed "strconv.ErrSyntax" = some 0 := by kernel_rfl
theorem tES : (Tryd.prog.globals[0]?).map (·.type) = some 42 := by kernel_rfl

theorem door_met (os : Os) (args : Array Value) : laidMetH Tryd.prog Rows.fnUnescapeAgreesWithSplitInlineRow.laid ((World.doorLaid Tryd.prog 400 os).forCall (fun _ _ => 0) ⟨#[], args, []⟩).memory :=
  laidMetH_of_parts3 (fuel := 8) (laidMet_of_run' 8 (by kernel_rfl) (by kernel_rfl)) (by kernel_rfl) (by kernel_rfl)

theorem errSyntax_cell {W : World} (h : laidMetH Tryd.prog Rows.fnUnescapeAgreesWithSplitInlineRow.laid W) : ∃ te pe, W.cell? ⟨0, 0, none⟩ = some (.iface te pe) := by
  rw [MakeChecks.laidMetH_plain _ _ _ (by kernel_rfl)] at h
  obtain ⟨ps, ⟨g0, t0, cs0, f0, p0, q0, hg0, ht0, hv0, hd0, _, e0⟩, _, _⟩ := h.tail.tail.tail.tail
  obtain rfl := Option.some.inj (gES.symm.trans hg0)
  obtain rfl := Option.some.inj (tES.symm.trans ht0)
  simp only [Rows.laid_strconv_ErrSyntax] at hd0
  obtain ⟨f1, u, v, hcs, _⟩ := iface_of_trod Tryd.underlying42 hd0
  obtain ⟨l⟩ := cs0
  simp only at hcs
  subst hcs
  exact ⟨u, v, by simpa using World.var?_cell gES hv0 0⟩

end Go.Proofs.Qxb6601335aDoor
