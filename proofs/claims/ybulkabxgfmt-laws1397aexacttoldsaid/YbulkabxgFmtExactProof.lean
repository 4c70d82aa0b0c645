/-
  'Rows.LawS1397AExactToldSaid': THE TOLD AND TIED CARD of streamsign.LawS1397AExact, PROVED: the contract at F.told, the wrap, the builder's one call. The tie is the given one (YbulkabxgFmtTie).
-/
import Derived.Test.YbulkabxgFmtCards
import Derived.Test.YbulkabxgFmtTie
import Derived.Test.YbulkabxgFmtWalkB
import Derived.Test.YbulkabxgFmtLaid
import Derived.Stop.JoinedTold
import Derived.Stop.JoinedAt
import Derived.Deep.DeepWitnessRef
import Derived.SevenTiedAt
import Derived.ShutString
namespace Go.Proofs.YbulkabxgFmt
open Go.ChangeShapes Go.WideShapes Go.ChangeAt Go.RowKit
open Go.ChangeMaps (open_string shut_string)
open Go.Extern.Stop Go.Stop Go.Extern

set_option maxRecDepth 100000 in
theorem exact_lifted (os : Os) (started : os.Started) (H : Type) (enc : TypeId × Value → H) :
    ReturnsInTold none {} Ybaf.checked os 3 .any Input.okWide ((OpenSpec.ofChange Rows.lawS1397AExactSpec).preRow enc Ybaf.prog Ybaf.f3 Rows.lawS1397AExactRow.domain false Rows.lawS1397AExactRow.laid)
      (fun F => ((OpenSpec.ofChange Rows.lawS1397AExactSpec).at F).post enc Ybaf.prog Ybaf.f3 false true false false) (aloneAtReturn Ybaf.prog) nothingAlways := by
  refine returnsInTold_of_row (C := Ybaf.checked) (s := OpenSpec.ofChange Rows.lawS1397AExactSpec) (by kernel_rfl) own started (by kernel_rfl) Ybaf.func3
    (OpenSpec.witness_stopped_atRef (enc := enc) (C := Ybaf.checked) false (World.doorLaid Ybaf.prog 400 os) #[.string ⟨#[]⟩] rfl (by kernel_rfl) (by kernel_rfl) (by kernel_rfl)
      (OpenSpec.preRow_of_B rfl 8 (by kernel_rfl) (by kernel_rfl) (door_met os _))) ?_
  intro F W base args ds gs before _ hF hval0 hW _ _ _ hL _
  have hval : ∀ (j : Nat) t v, Ybaf.f3.params[j]? = some t → args[j]? = some v → Value.okWide Ybaf.prog W .any base t v := hval0
  have hW' := hW
  obtain ⟨p, q, hA0, hV0, rfl, _, _⟩ := hW
  have hA : DataW.TrodAll enc Ybaf.prog W 0 (fun _ => true) true Ybaf.f3.params.toList args.toList ds p := hA0
  have hV : DataW.TrodVars enc Ybaf.prog W (fun _ => true) [vname] gs q := hV0
  rw [Ybaf.params3] at hA hval
  obtain ⟨v0, d0, rfl, rfl, h0⟩ := trodAll_one hA
  obtain ⟨s, rfl, rfl, rfl, ws⟩ := open_string Ybaf.underlying9 (hval 0 9 v0 rfl rfl) h0
  obtain ⟨g, t, cs, fuel, d, p', rfl, _, _, _, _, hq⟩ := trodVars_one hV
  clear hq
  obtain ⟨bm, n, hcell, hown⟩ := of_laid hL
  clear hA0 hV0 hval0
  refine (exact_any F.told s bm n W hF hcell hown).mono fun e W' ⟨he, bel⟩ => ?_
  subst he
  exact ⟨_, rfl, _, _, _, [], [], q, hW', trodAll_mk1 (shut_bool Ybaf.underlying4 _), trodAll_mk1 (shut_string Ybaf.underlying9 ws), Below.trodVars laidOut bel (by kernel_rfl) hV, bel.frame _, fun h => by cases h⟩

theorem stops1 : Ybaf.pinned.checked.prog.stops = ["fmt.errorf"] := by kernel_rfl
theorem stopKnobs1 : Ybaf.pinned.checked.prog.stopKnobs = [] := by kernel_rfl
theorem quiet1 (os : Os) : Stop.quiet Ybaf.pinned.checked.prog os := by
  intro k hk
  rw [stopKnobs1] at hk
  cases hk

/-- The given statement. -/
theorem lawS1397AExact_said : Rows.LawS1397AExactToldSaid :=
  Claim7.holds_of_told_tied_any_at .later 3 Ybaf.f3 "fmt.errorf" [] [] _ _ _ _ _ (by kernel_rfl) rfl rfl rfl laidOut (by kernel_rfl) rfl ⟨rfl, rfl, rfl, rfl, rfl, rfl, rfl⟩ rfl rfl (by kernel_rfl) (by kernel_rfl) Ybaf.func3 (by kernel_rfl)
    (of_decide_eq_true (by kernel_rfl)) (by unfold Func.isWrapper; first | (rw [if_pos (by decide +kernel)]; kernel_rfl) | (rw [if_neg (by decide +kernel)]; exact ⟨rfl, rfl⟩)) stops1.symm rfl stopKnobs1.symm (by kernel_rfl)
    (by kernel_rfl) (by kernel_rfl) (by kernel_rfl) (by kernel_rfl) (by kernel_rfl) (by kernel_rfl) (by kernel_rfl) (by kernel_rfl) (by kernel_rfl) rfl (by kernel_rfl) rfl rfl
    rfl rfl
    rfl (by kernel_rfl) (by kernel_rfl) (by kernel_rfl) (by decide) (by kernel_rfl) lawS1397AExact_row_tie
    (OpenClaim.moreEntering_of (by kernel_rfl) (by kernel_rfl) (by kernel_rfl) (by kernel_rfl) (by kernel_rfl) (by kernel_rfl) (by kernel_rfl) (by kernel_rfl) (by kernel_rfl) (by kernel_rfl))
    ⟨_, WideRow.started_initial, quiet1 _⟩
    (fun os started _ H enc _ => exact_lifted os started H enc)

#print axioms lawS1397AExact_said
end Go.Proofs.YbulkabxgFmt
