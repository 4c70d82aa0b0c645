/-
  THE WALKS: ParseTimeFormat over the listed map, ON EVERY ORDER (the round's relation: a known text's entry is still to come), the fall-through by fmt.Errorf; the expectation's case table.
-/
import Derived.Test.YbulkabxgFmtPlain
import Derived.Test.YbulkabxgFmtFacts
import Derived.WalkKit
import Derived.WalkSpells
import Derived.WalkLawsBesides
import Derived.Maps.StringElems
namespace Go.Proofs.YbulkabxgFmt
open Go.RowKit Go.Extern.Stop Go.Stop Go.Extern Go.Maps
attribute [local go_sem] call10 guard10 fmt0 fmt0r fmt1 fmt1r op9_113 op9_113w strict9 ptr41 elem41 isError41

theorem law22 : Keyed Ybaf.prog 22 := int_keyed Ybaf.underlying22

theorem text_eq {c s : ByteArray} (h : (c.toList == s.toList) = true) : c.data.toList = s.data.toList := by
  have := eq_of_beq h
  rwa [ByteArray.toList_eq, ByteArray.toList_eq] at this
theorem text_ne {c s : ByteArray} (h : (c.toList == s.toList) = false) : c.data.toList ≠ s.data.toList := by
  intro e
  rw [ByteArray.toList_eq, ByteArray.toList_eq, e] at h
  simp at h

set_option maxHeartbeats 1000000 in
set_option maxRecDepth 1000000 in
theorem parse_any (F : Interp) (s : ByteArray) (bm n : Nat) (w : World) (hF : F.answers w.tape) (hcell : w.cell? ⟨0, 0, none⟩ = some (.map (some bm))) (hown : w.ownsMap Ybaf.prog 22 (plainElem Ybaf.prog 9) bm n D0) :
    Calls Ybaf.prog 5 #[.string s] w fun e w' => Below w.heap.size w w' ∧
      ((val s.data.toList ≠ 0 ∧ e = .returned (.tuple #[.int .i64 (val s.data.toList), .nilIface])) ∨
       (val s.data.toList = 0 ∧ ∃ a, e = .returned (.tuple #[.int .i64 0, .iface 41 (.pointer (some a))]))) := by
  have HF : Hid (F.answers w.tape) := hF
  clear hF
  go_enter Ybaf.func5, Ybaf.ntmps5
  go_wp2_with (first
    | (at_range; refine wpList_range_own _ rfl _ 35 rfl 22 9 law22 Ybaf.underlying35 _ bm n _ rfl hown ?_; intro w0 hrg0 hg0 hs0)
    | go_in)
  go_frame
  go_loopw [4] (fun _ wr => ∃ (left : Lit → Bool) (cnt : Nat), wr.ranges Ybaf.prog 22 (plainElem Ybaf.prog 9) bm w.heap.size n D0 left cnt ∧ Hid (val s.data.toList ≠ 0 → left (.int .i64 (val s.data.toList)) = true) ∧ Below w.heap.size w wr)
    (fun _ wr => wr.rangeLeft bm w.heap.size)
  case atStart => exact ⟨_, _, hrg0, left_start _, (Below.refl _ _).grown hg0 (Nat.le_refl _) (fun k h => by cases h)⟩
  case round =>
    obtain ⟨left, cnt, hrg, HL, hbel⟩ := hrel
    clear hown hrg0 hg0 hs0
    go_wp2_with (first
      | (at_next; refine wpList_next_ranges_is _ rfl _ rfl 22 9 .i64 law22 Ybaf.underlying22 Ybaf.underlying9 bm w.heap.size n _ _ _ rfl hrg ?_ ?_)
      | go_in)
    · intro hc0 hl0
      have hv0 : val s.data.toList = 0 := by
        by_cases h : val s.data.toList = 0
        · exact h
        · have := HL.out h; rw [hl0] at this; cases this
      have HV : Hid (val s.data.toList = 0) := hv0
      have hF' : F.answers wr.tape := by rw [hbel.tape]; exact HF.out
      unfold Interp.answers at hF'
      clear hv0 HL hl0 hrg
      go_wp2
      go_ret2
      exact ⟨((hbel.alloc hbel.size _).alloc (by have := hbel.size; simp; omega) _).drew, .inr ⟨HV.out, _, rfl⟩⟩
    · intro x c w1 cnt1 hwx hwc hlx hat hrg1 hlt hg1 hs1 hen
      obtain ⟨hx, hv⟩ := at_key hat
      have HX : Hid (x = val c.data.toList) := hx
      have HV : Hid (val c.data.toList ≠ 0) := hv
      have hb1 : Below w.heap.size w w1 := hbel.grown hg1 hbel.size (fun k hk => by cases hk; exact Nat.le_refl _)
      clear hx hv hat
      go_wp2
      · have hcs := text_eq (by assumption : (c.toList == s.toList) = true)
        go_ret2
        refine ⟨hb1, .inl ⟨by rw [← hcs]; exact HV.out, ?_⟩⟩
        rw [← hcs, ← HX.out]
        rfl
      · have hcs := text_ne (by assumption : (c.toList == s.toList) = false)
        go_roundw
        case rel => exact ⟨_, cnt1, hrg1, left_step HL.out HX.out HV.out hcs, hb1⟩
        case measure => rw [hrg1.left_eq, hrg.left_eq]; exact hlt

theorem val_dec {s : ByteArray} (h : (s.toList == [100, 101, 99]) = true) : val s.data.toList = 1 := by
  have := eq_of_beq h
  rw [ByteArray.toList_eq] at this
  rw [this]; rfl
theorem val_hex {s : ByteArray} (h : (s.toList == [104, 101, 120]) = true) : val s.data.toList = 2 := by
  have := eq_of_beq h
  rw [ByteArray.toList_eq] at this
  rw [this]; rfl
theorem val_hexUp {s : ByteArray} (h : (s.toList == [72, 69, 88]) = true) : val s.data.toList = 3 := by
  have := eq_of_beq h
  rw [ByteArray.toList_eq] at this
  rw [this]; rfl
theorem val_other {s : ByteArray} (h1 : (s.toList == [100, 101, 99]) = false) (h2 : (s.toList == [104, 101, 120]) = false) (h3 : (s.toList == [72, 69, 88]) = false) : val s.data.toList = 0 := by
  rw [ByteArray.toList_eq] at h1 h2 h3
  rcases val_cases s.data.toList with ⟨h, _⟩ | ⟨h, _⟩ | ⟨h, _⟩ | ⟨_, _, _, h⟩
  · rw [h] at h1; cases h1
  · rw [h] at h2; cases h2
  · rw [h] at h3; cases h3
  · exact h

set_option maxHeartbeats 400000 in
theorem expect_any (s : ByteArray) (w : World) :
    Calls Ybaf.prog 6 #[.string s] w fun e w' => e = .returned (.tuple #[.int .i64 (val s.data.toList), .bool (val s.data.toList != 0)]) ∧ w' = w := by
  go_enter Ybaf.func6, Ybaf.ntmps6
  go_wp2
  all_goals go_ret2
  · rw [val_dec ‹_›]; exact ⟨rfl, rfl⟩
  · rw [val_hex ‹_›]; exact ⟨rfl, rfl⟩
  · rw [val_hexUp ‹_›]; exact ⟨rfl, rfl⟩
  · rw [val_other (by assumption) (by assumption) (by assumption)]; exact ⟨rfl, rfl⟩

end Go.Proofs.YbulkabxgFmt
