/-
  THE WALK OF THE MODEL (zzs1397cmodel): two loops, one inside the other.
-/
import Derived.Test.YbulkabxgWalkA
namespace Go.Proofs.Ybulkabxg
open Go.RowKit

set_option maxHeartbeats 1000000 in
theorem model_any (s : ByteArray) (w : World) (hs : s.size ≤ maxLen) :
    Calls Yba.prog 7 #[.string s] w fun e w' => e = .returned (.bool (sch s)) ∧ w' = w := by
  unfold maxLen at hs
  go_enter Yba.func7, Yba.ntmps7
  go_wp2
  go_loop [3] (fun i => ∃ k : Nat, k ≤ s.size ∧ i = .int .i64 k ∧ NoColon s k) (fun i => s.size - (intOf i).toNat)
  case atStart => exact ⟨0, Nat.zero_le _, rfl, NoColon.zero _⟩
  case round =>
    obtain ⟨k, hk, rfl, hp⟩ := hrel
    have HP : Hid (NoColon s k) := hp
    clear hp
    by_cases hlt : k < s.size
    · have h0s : 0 < s.size := by omega
      have hb := bat_eq s k hlt
      have hb0 := bat_eq s 0 h0s
      by_cases hc : (bat s k != 58) = true
      · go_wp2
        go_round
        case rel => exact ⟨k + 1, by omega, by go_num, HP.out.succ (by simpa using hc)⟩
        case measure => simp [intOf]; omega
      · have hc' : (bat s k != 58) = false := by simpa using hc
        have HC : Hid (bat s k = 58) := (by simpa using hc : bat s k = 58)
        clear hc
        by_cases hk0 : k = 0
        · subst hk0
          go_wp2
          go_ret
          exact ⟨ret_bool (NoColon.atZero HC.out).symm, rfl⟩
        · have hk1 : 0 < k := by omega
          clear hk0
          cases hl : ltrB (bat s 0) with
          | false =>
            go_wp2_with (go_at_call 9; refine (letter_any _ _).mono ?_; rintro e w' ⟨rfl, rfl⟩)
            go_ret
            exact ⟨ret_bool (NoColon.noLetter hl).symm, rfl⟩
          | true =>
            go_wp2_with (go_at_call 9; refine (letter_any _ _).mono ?_; rintro e w' ⟨rfl, rfl⟩)
            go_loop [4] (fun i => ∃ j : Nat, 1 ≤ j ∧ j ≤ k ∧ i = .int .i64 j ∧ Good s j) (fun i => k - (intOf i).toNat)
            case atStart => exact ⟨1, Nat.le_refl _, hk1, rfl, Good.one hl⟩
            case round =>
              obtain ⟨j, hj1, hjk, rfl, hg⟩ := hrel
              have HG : Hid (Good s j) := hg
              clear hg
              by_cases hjl : j < k
              · have hjs : j < s.size := by omega
                have hbj := bat_eq s j hjs
                cases hq : schB (bat s j) with
                | false =>
                  go_wp2_with (go_at_call 10; refine (schar_any _ _).mono ?_; rintro e w' ⟨rfl, rfl⟩)
                  go_ret
                  exact ⟨ret_bool (HP.out.badChar hjl hq).symm, rfl⟩
                | true =>
                  go_wp2_with (go_at_call 10; refine (schar_any _ _).mono ?_; rintro e w' ⟨rfl, rfl⟩)
                  go_round
                  case rel => exact ⟨j + 1, by omega, by omega, by go_num, HG.out.succ hq⟩
                  case measure => simp [intOf]; omega
              · go_wp2
                go_ret
                exact ⟨ret_bool (HG.out.yes (by omega) hk1 hlt HC.out hl).symm, rfl⟩
    · go_wp2
      go_ret
      exact ⟨ret_bool (HP.out.ends (by omega)).symm, rfl⟩

end Go.Proofs.Ybulkabxg
