/-
  THE WALK OF LawS1397CBuilt: 'make' within a known capacity, a picked byte appended a round, string(b), then hasScheme and the model, each by its contract.
-/
import Derived.Test.YbulkabxgWalkB
import Derived.Test.YbulkabxgWalkC
namespace Go.Proofs.Ybulkabxg
open Go.RowKit

set_option maxHeartbeats 400000 in
theorem pick_any (x : Int) (w : World) (h0 : 0 ≤ x) (h1 : x ≤ 255) :
    Calls Yba.prog 8 #[.int .u8 x] w fun e w' => ∃ c : UInt8, e = .returned (.int .u8 (c.toNat : Int)) ∧ w' = w := by
  go_enter Yba.func8, Yba.ntmps8
  go_wp2
  go_ret
  exact ⟨_, rfl, rfl⟩

set_option maxHeartbeats 1000000 in
set_option maxRecDepth 1000000 in
theorem built_main (a0 : Option Addr) (len cap : Nat) (zs : List Int) (w : World) (hv : View w a0 len zs) (hlen : len ≤ 1024) :
    Calls Yba.prog 4 #[.slice a0 len cap] w fun e w' => e = .returned (.bool true) ∧ Below w.heap.size w w' := by
  obtain ⟨i0, hi, hz0, hz1, hz2⟩ := info_parts Yba.info5
  go_enter Yba.func4, Yba.ntmps4
  go_wp2_with (first
    | (at_make; refine wpList_make_own _ rfl _ _ 23 rfl w.heap.size 5 i0 (.int .u8 0) 1 Yba.underlying23 hi hz0 hz1 _ _ _ len rfl rfl (by omega) ?b2 ?b3 (Nat.le_refl _) ?_))
  case b2 => rw [hz2]; omega
  case b3 => unfold maxLen; omega
  intro w0 hown0 hgrow0
  have hb0 : Below w.heap.size w w0 := (Below.refl _ _).grown hgrow0 (Nat.le_refl _) (fun k h => by cases h)
  clear hgrow0
  go_wp2
  go_loopw [3, 15] (fun v i wr => ∃ (k : Nat) (bs : List UInt8), k ≤ len ∧ i = .int .i64 k ∧ bs.length = k ∧ v = .slice (some ⟨w.heap.size, 0, none⟩) k len ∧
      wr.ownsRow w.heap.size 5 1 (.slice (some ⟨w.heap.size, 0, none⟩) k len) k (bs.map byteV) ∧ Below w.heap.size w wr)
    (fun _ i _ => len - (intOf i).toNat)
  case atStart => exact ⟨0, [], Nat.zero_le _, rfl, rfl, rfl, hown0, hb0⟩
  case round =>
    obtain ⟨k, bs, hk, rfl, hbl, rfl, hown, hbel⟩ := hrel
    have HB : Hid (bs.length = k) := hbl
    clear hbl hown0 hb0
    by_cases hlt : k < len
    · obtain ⟨b, off, rfl, hbw, hcell, hx0, hx1⟩ := hv k hlt
      have hcx : wr.cell? ⟨b, off + k, none⟩ = some (.int .u8 (zs.getD k 0)) := (hbel.cell (by exact hbw)).trans hcell
      obtain ⟨x, hx⟩ : ∃ x, x = zs.getD k 0 := ⟨_, rfl⟩
      rw [← hx] at hcx hx0 hx1
      clear hcell hx hv
      go_wp2_with fail
      refine (pick_any _ _ hx0 hx1).mono ?_
      rintro e w' ⟨c, rfl, hw⟩
      subst hw
      go_wp2_with (at_builtin; refine wpList_append_fits _ rfl (.tmp 19) (.tmp 22) 23 rfl w.heap.size 5 i0 1 Yba.underlying23 hi hz1 w.heap.size k len _ rfl (hown.alloc _) ⟨_, 0, none⟩ 1 1 [byteV c] rfl rfl ?d1 ?d2 ?d3 ?_)
      case d1 =>
        intro j u hj
        match j, hj with
        | 0, hj => simp at hj; subst hj; simp [Addr.add, byteV]
      case d2 => intro u hu; simp at hu; subst hu; rfl
      case d3 => omega
      intro w2 hown2 hgrow2
      have hb2 : Below w.heap.size w w2 := (hbel.alloc hbel.size _).grown hgrow2 (by simp; have := hbel.size; omega) (fun k hk => by cases hk; exact Nat.le_refl _)
      have e2 : List.map byteV bs ++ [byteV c] = List.map byteV (bs ++ [c]) := by simp
      rw [e2] at hown2
      clear hgrow2 hown hbel hcx
      go_wp2
      go_roundw
      case rel => exact ⟨k + 1, bs ++ [c], by omega, by go_num, by simp [HB.out], rfl, hown2, hb2⟩
      case measure => simp [intOf]; omega
    · have hkl : k = len := by omega
      subst hkl
      clear hv
      have hconv := conv_own hown HB.out
      obtain ⟨s, hs⟩ : ∃ s : ByteArray, s = ⟨bs.toArray⟩ := ⟨_, rfl⟩
      have hst : s.size ≤ maxLen := by
        have : s.size = k := by rw [hs]; show bs.toArray.size = _; simp [HB.out]
        unfold maxLen; omega
      rw [← hs] at hconv
      clear hs hown
      go_wp2_with (first | (go_at_call 6; refine (hasScheme_any _ _ hst).mono ?_; rintro e w' ⟨rfl, rfl⟩) | (go_at_call 7; refine (model_any _ _ hst).mono ?_; rintro e w' ⟨rfl, rfl⟩))
      go_ret
      exact ⟨ret_bool (by simp), hbel⟩

end Go.Proofs.Ybulkabxg
