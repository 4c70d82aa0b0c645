/-
  THE WALK OF LawS1397AExact, out of the two contracts.
-/
import Derived.Test.YbulkabxgFmtWalkA
namespace Go.Proofs.YbulkabxgFmt
open Go.RowKit Go.Extern.Stop Go.Stop Go.Extern Go.Maps

theorem ret_bool {a b : Bool} (h : a = b) : Ending.returned (.bool a) = .returned (.bool b) := by rw [h]

set_option maxHeartbeats 1000000 in
set_option maxRecDepth 1000000 in
theorem exact_any (F : Interp) (s : ByteArray) (bm n : Nat) (w : World) (hF : F.answers w.tape) (hcell : w.cell? ⟨0, 0, none⟩ = some (.map (some bm))) (hown : w.ownsMap Ybaf.prog 22 (plainElem Ybaf.prog 9) bm n D0) :
    Calls Ybaf.prog 3 #[.string s] w fun e w' => e = .returned (.bool true) ∧ Below w.heap.size w w' := by
  go_enter Ybaf.func3, Ybaf.ntmps3
  go_wp2_with fail
  refine (parse_any F s bm n _ hF hcell hown).mono ?_
  rintro e w1 ⟨hb, ⟨hv, rfl⟩ | ⟨hv, a, rfl⟩⟩
  · have hv' : (val s.data.toList != 0) = true := by simpa using hv
    clear hv hF hcell hown
    go_wp2_with (go_at_call 6; refine (expect_any _ _).mono ?_; rintro e w' ⟨rfl, rfl⟩)
    go_ret
    exact ⟨rfl, hb⟩
  · have hv' : (val s.data.toList != 0) = false := by simp [hv]
    clear hF hcell hown
    go_wp2_with (go_at_call 6; refine (expect_any _ _).mono ?_; rintro e w' ⟨rfl, rfl⟩)
    go_ret
    exact ⟨rfl, hb⟩

end Go.Proofs.YbulkabxgFmt
