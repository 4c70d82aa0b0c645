/-
  WHAT THE ROW's CONDITION ON THE LISTED MAP ('laid') GIVES THE WALKS, and the start that is shown to be there (the heap that the door's own run leaves).
-/
import Derived.Test.YbulkabxgFmtPlain
import Derived.ProofKit
import Derived.LaidMore
import Derived.OpenShut
import Derived.OpenVars
import Derived.Stop.Joined
import Derived.Maps.StringElems
namespace Go.Proofs.YbulkabxgFmt
open Go.ChangeShapes Go.WideShapes Go.ChangeAt Go.WideMaps Go.WideElems Go.RowKit

theorem own : ownKnob Ybaf.prog.godebug = none := by kernel_rfl
theorem laidOut : laidOutB Ybaf.prog = true := by kernel_rfl
/-- The listed variable's name, out of the given row. -/
def vname : String := Rows.lawS1397AExactSpec.vars.headD ""
theorem gVar : Ybaf.prog.globalNamed vname = some 0 := by kernel_rfl
theorem tVar : (Ybaf.prog.globals[0]?).map (·.type) = some 35 := by kernel_rfl
/-- The two rows list the same. -/
def laid1 : List (String × DataW Unit) := Rows.lawS1397AExactRow.laid

/-- The door's own heap meets the condition: three closed facts. -/
theorem door_met (os : Os) (args : Array Value) : laidMetH Ybaf.prog laid1 ((World.doorLaid Ybaf.prog 400 os).forCall (fun _ _ => 0) ⟨#[], args, []⟩).memory :=
  laidMetH_of_parts3 (fuel := 8) (laidMet_of_run' 8 (by kernel_rfl) (by kernel_rfl)) (by kernel_rfl) (by kernel_rfl)

/-- WHAT THE CONDITION GIVES THE WALKS: the map's cell, and that the map reads as the listed datum. -/
theorem of_laid {W : World} (h : laidMetH Ybaf.prog laid1 W) : ∃ bm n, W.cell? ⟨0, 0, none⟩ = some (.map (some bm)) ∧ W.ownsMap Ybaf.prog 22 (plainElem Ybaf.prog 9) bm n D0 := by
  rw [MakeChecks.laidMetH_plain _ _ _ (by kernel_rfl)] at h
  obtain ⟨ps, ⟨g0, t0, cs0, f0, p0, q0, hg0, ht0, hv0, hd0, _, _⟩, _, _⟩ := h
  obtain rfl := Option.some.inj (gVar.symm.trans hg0)
  obtain rfl := Option.some.inj (tVar.symm.trans ht0)
  rcases open_map Ybaf.underlying35 hd0 with ⟨_, hx⟩ | ⟨bm, es, clock, m, rfl, hcs, hb, _, F, hx⟩
  · simp [Rows.laid_example_com_streamsign_streamsign_timeFormatNames] at hx
  simp only [Prod.mk.injEq] at hx
  have hcell : W.cell? ⟨0, 0, none⟩ = some (.map (some bm)) := by
    have := World.var?_cell hg0 hv0 0
    rw [Array.eq_one_of_toList hcs] at this
    simpa using this
  refine ⟨bm, es.size, hcell, ?_⟩
  have ho := World.ownsMap_of_fit (R := plainElem Ybaf.prog 9) hb F (fun x _ z hz => elemAt_plainElem_string Ybaf.underlying9 hz)
  rw [← hx.1] at ho
  exact ho

end Go.Proofs.YbulkabxgFmt
