/-
  'Rows.LawS1397APickToldSaid': THE TOLD AND TIED CARD of streamsign.LawS1397APick, PROVED: the contract at F.told, the wrap, the builder's one call. The tie is the given one (YbulkabxgFmtTie).
-/
import Derived.Test.YbulkabxgFmtCards
import Derived.Test.YbulkabxgFmtTie
import Derived.Test.YbulkabxgFmtWalkD
import Derived.Test.YbulkabxgFmtLaid
import Derived.Stop.JoinedTold
import Derived.Stop.JoinedAt
import Derived.Deep.DeepWitnessRef
import Derived.SevenTiedAt
import Derived.ShutString
namespace Go.Proofs.YbulkabxgFmt.Pick
open Go.ChangeShapes Go.WideShapes Go.ChangeAt Go.RowKit
open Go.ChangeMaps (open_string shut_string)
open Go.Extern.Stop Go.Stop Go.Extern

/-- The walk, whatever the tail's length: above 1024 bytes the law lets it by. -/
theorem walk (F : Interp) (k st : Int) (t : ByteArray) (bm n : Nat) (w : World) (hF : F.answers w.tape) (hcell : w.cell? ⟨0, 0, none⟩ = some (.map (some bm))) (hown : w.ownsMap Ybaf.prog 22 (plainElem Ybaf.prog 9) bm n D0)
    (hk0 : 0 ≤ k) (hk1 : k ≤ 255) (hs0 : -128 ≤ st) (hs1 : st ≤ 127) (ht : t.size ≤ maxLen) :
    Calls Ybaf.prog 4 #[.int .u8 k, .int .i8 st, .string t] w fun e w' => e = .returned (.bool true) ∧ Below w.heap.size w w' := by
  by_cases hbig : t.size ≤ 1024
  · exact pick_main F k st t bm n w hF hcell hown hk0 hk1 hs0 hs1 hbig
  · unfold maxLen at ht
    clear hF hcell hown
    go_enter Ybaf.func4, Ybaf.ntmps4
    go_wp2
    go_ret
    exact ⟨rfl, Below.refl _ _⟩

set_option maxRecDepth 100000 in
theorem lifted (os : Os) (started : os.Started) (H : Type) (enc : TypeId × Value → H) :
    ReturnsInTold none {} Ybaf.checked os 4 .any Input.okWide ((OpenSpec.ofChange Rows.lawS1397APickSpec).preRow enc Ybaf.prog Ybaf.f4 Rows.lawS1397APickRow.domain false Rows.lawS1397APickRow.laid)
      (fun F => ((OpenSpec.ofChange Rows.lawS1397APickSpec).at F).post enc Ybaf.prog Ybaf.f4 false true false false) (aloneAtReturn Ybaf.prog) nothingAlways := by
  refine returnsInTold_of_row (C := Ybaf.checked) (s := OpenSpec.ofChange Rows.lawS1397APickSpec) (by kernel_rfl) own started (by kernel_rfl) Ybaf.func4
    (OpenSpec.witness_stopped_atRef (enc := enc) (C := Ybaf.checked) false (World.doorLaid Ybaf.prog 400 os) #[.int .u8 0, .int .i8 0, .string ⟨#[]⟩] rfl (by kernel_rfl) (by kernel_rfl) (by kernel_rfl)
      (OpenSpec.preRow_of_B rfl 8 (by kernel_rfl) (by kernel_rfl) (door_met os _))) ?_
  intro F W base args ds gs before _ hF hval0 hW _ _ _ hL _
  have hval : ∀ (j : Nat) t v, Ybaf.f4.params[j]? = some t → args[j]? = some v → Value.okWide Ybaf.prog W .any base t v := hval0
  have hW' := hW
  obtain ⟨p, q, hA0, hV0, rfl, _, _⟩ := hW
  have hA : DataW.TrodAll enc Ybaf.prog W 0 (fun _ => true) true Ybaf.f4.params.toList args.toList ds p := hA0
  have hV : DataW.TrodVars enc Ybaf.prog W (fun _ => true) [vname] gs q := hV0
  rw [Ybaf.params4] at hA hval
  obtain ⟨v0, v1, v2, d0, d1, d2, p0, p1, p2, rfl, rfl, rfl, h0, h1, h2⟩ := trodAll_three hA
  obtain ⟨k, rfl, rfl, rfl, wk⟩ := open_int Ybaf.underlying5 (hval 0 5 v0 rfl rfl) h0
  obtain ⟨st, rfl, rfl, rfl, wst⟩ := open_int Ybaf.underlying30 (hval 1 30 v1 rfl rfl) h1
  obtain ⟨t, rfl, rfl, rfl, wt⟩ := open_string Ybaf.underlying9 (hval 2 9 v2 rfl rfl) h2
  obtain ⟨g, tt, cs, fuel, d, p', rfl, _, _, _, _, hq⟩ := trodVars_one hV
  clear hq
  obtain ⟨bm, n, hcell, hown⟩ := of_laid hL
  clear hA0 hV0 hval0
  have bk := bounds_u8 wk
  have bs := bounds_i8 wst
  refine (walk F.told k st t bm n W hF hcell hown bk.1 bk.2 bs.1 bs.2 wt).mono fun e W' ⟨he, bel⟩ => ?_
  subst he
  exact ⟨_, rfl, _, _, _, [], [], q, hW', trodAll_mk1 (shut_bool Ybaf.underlying4 _), trodAll_mk3 (shut_int Ybaf.underlying5 wk) (shut_int Ybaf.underlying30 wst) (shut_string Ybaf.underlying9 wt), Below.trodVars laidOut bel (by kernel_rfl) hV, bel.frame _, fun h => by cases h⟩

theorem stops1 : Ybaf.pinned.checked.prog.stops = ["fmt.errorf"] := by kernel_rfl
theorem stopKnobs1 : Ybaf.pinned.checked.prog.stopKnobs = [] := by kernel_rfl
theorem quiet1 (os : Os) : Stop.quiet Ybaf.pinned.checked.prog os := by
  intro k hk
  rw [stopKnobs1] at hk
  cases hk

/-- The given statement. -/
theorem proved : Rows.LawS1397APickToldSaid :=
  Claim7.holds_of_told_tied_any_at .later 4 Ybaf.f4 "fmt.errorf" [] [] _ _ _ _ _ (by kernel_rfl) rfl rfl rfl laidOut (by kernel_rfl) rfl ⟨rfl, rfl, rfl, rfl, rfl, rfl, rfl⟩ rfl rfl (by kernel_rfl) (by kernel_rfl) Ybaf.func4 (by kernel_rfl)
    (of_decide_eq_true (by kernel_rfl)) (by unfold Func.isWrapper; first | (rw [if_pos (by decide +kernel)]; kernel_rfl) | (rw [if_neg (by decide +kernel)]; exact ⟨rfl, rfl⟩)) stops1.symm rfl stopKnobs1.symm (by kernel_rfl)
    (by kernel_rfl) (by kernel_rfl) (by kernel_rfl) (by kernel_rfl) (by kernel_rfl) (by kernel_rfl) (by kernel_rfl) (by kernel_rfl) (by kernel_rfl) rfl (by kernel_rfl) rfl rfl
    rfl rfl
    rfl (by kernel_rfl) (by kernel_rfl) (by kernel_rfl) (by decide) (by kernel_rfl) lawS1397APick_row_tie
    (OpenClaim.moreEntering_of (by kernel_rfl) (by kernel_rfl) (by kernel_rfl) (by kernel_rfl) (by kernel_rfl) (by kernel_rfl) (by kernel_rfl) (by kernel_rfl) (by kernel_rfl) (by kernel_rfl))
    ⟨_, WideRow.started_initial, quiet1 _⟩
    (fun os started _ H enc _ => lifted os started H enc)

end Go.Proofs.YbulkabxgFmt.Pick
namespace Go.Proofs.YbulkabxgFmt
/-- The given statement, under a short name. -/
theorem lawS1397APick_said : Rows.LawS1397APickToldSaid := Pick.proved
#print axioms lawS1397APick_said
end Go.Proofs.YbulkabxgFmt
