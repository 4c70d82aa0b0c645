/-
  THE WALKS OF THE CALLEES: letter, scheme character, hasScheme, the model: each computes a plain function of YbulkabxgPlain.lean.
-/
import Derived.Test.YbulkabxgRows
import Derived.Test.YbulkabxgPlain
import Derived.WalkKit
namespace Go.Proofs.Ybulkabxg
open Go.RowKit

set_option maxHeartbeats 400000 in
theorem letter_any (c : Int) (w : World) :
    Calls Yba.prog 9 #[.int .u8 c] w fun e w' => e = .returned (.bool (ltrB c)) ∧ w' = w := by
  go_enter Yba.func9, Yba.ntmps9
  go_wp2
  all_goals go_ret
  all_goals exact ⟨ret_bool (by rw [Bool.eq_iff_iff, ltrB_iff]; simp <;> omega), rfl⟩

set_option maxHeartbeats 400000 in
theorem schar_any (c : Int) (w : World) :
    Calls Yba.prog 10 #[.int .u8 c] w fun e w' => e = .returned (.bool (schB c)) ∧ w' = w := by
  go_enter Yba.func10, Yba.ntmps10
  go_wp2_with (go_at_call 9; refine (letter_any _ _).mono ?_; rintro e w' ⟨rfl, rfl⟩)
  all_goals go_ret
  all_goals
    refine ⟨ret_bool ?_, rfl⟩
    rw [Bool.eq_iff_iff, schB_split]
    first
      | (rw [‹ltrB c = true›]; simp)
      | (simp [‹ltrB c = false›] <;> omega)

set_option maxHeartbeats 400000 in
theorem hasScheme_any (s : ByteArray) (w : World) (hs : s.size ≤ maxLen) :
    Calls Yba.prog 6 #[.string s] w fun e w' => e = .returned (.bool (sch s)) ∧ w' = w := by
  unfold maxLen at hs
  go_enter Yba.func6, Yba.ntmps6
  go_wp2
  go_loop [3] (fun i => ∃ k : Nat, k ≤ s.size ∧ i = .int .i64 k ∧ Pre s k) (fun i => s.size - (intOf i).toNat)
  case atStart => exact ⟨0, Nat.zero_le _, rfl, Pre.zero _⟩
  case round =>
    obtain ⟨k, hk, rfl, hp⟩ := hrel
    have HP : Hid (Pre s k) := hp
    clear hp
    by_cases hlt : k < s.size
    · have hb := bat_eq s k hlt
      go_wp2
      all_goals first
        | (go_round
           case rel => exact ⟨k + 1, by omega, by go_num, HP.out.step (by (try simp only [beq_iff_eq] at *); omega)⟩
           case measure => simp [intOf]; omega)
        | (go_ret
           refine ⟨ret_bool ?_, rfl⟩
           first
             | exact (HP.out.yes hlt (by assumption) (by simpa using ‹(bat s k == 58) = true›)).symm
             | exact (HP.out.no (by omega) (fun _ => by (try simp only [beq_iff_eq, beq_eq_false_iff_ne, ne_eq] at *); omega) (by first | (right; omega) | (left; simpa using ‹(bat s k == 58) = false›))).symm)
    · go_wp2
      go_ret
      exact ⟨ret_bool (HP.out.ends (by omega)).symm, rfl⟩

end Go.Proofs.Ybulkabxg
