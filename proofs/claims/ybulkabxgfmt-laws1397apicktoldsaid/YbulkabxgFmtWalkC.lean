/-
  THE WALKS OF zzs1397aname AND UnmarshalText, each by a contract.
-/
import Derived.Test.YbulkabxgFmtWalkB
import Derived.Laws.IdiomStrings
namespace Go.Proofs.YbulkabxgFmt
open Go.RowKit Go.Extern.Stop Go.Stop Go.Extern Go.Maps

set_option maxHeartbeats 400000 in
theorem name_any (k : Int) (w : World) (h0 : 0 ≤ k) (h1 : k ≤ 255) :
    Calls Ybaf.prog 7 #[.int .u8 k] w fun e w' => ∃ t : ByteArray, t.size ≤ 3 ∧ e = .returned (.string t) ∧ w' = w := by
  go_enter Ybaf.func7, Ybaf.ntmps7
  go_wp2
  all_goals go_ret
  all_goals exact ⟨_, by decide, rfl, rfl⟩

/-- 'string(text)', the slice's cells the bytes of s. -/
theorem conv_back {w : World} {sb cap : Nat} {s : ByteArray} (hc : ∀ j (hj : j < s.data.size), w.cell? ⟨sb, j, none⟩ = some (.int .u8 (s.data[j].toNat : Int))) :
    (convert 33 9 (.slice (some ⟨sb, 0, none⟩) s.size cap)).run Ybaf.prog w = .ok (.string s) w := by
  have hl : s.data.toList.length = s.size := Array.length_toList
  have h := run_convert_bytes_back (P := Ybaf.prog) w 33 9 5 ⟨sb, 0, none⟩ cap s.data.toList Ybaf.underlying33 Ybaf.underlying5 Ybaf.underlying9 (fun j hj => by
    rw [Addr.add_lit, Nat.zero_add, hc j (by simpa using hj)]
    simp)
  rw [hl] at h
  rw [h]

set_option maxHeartbeats 1000000 in
set_option maxRecDepth 1000000 in
theorem unm_any (F : Interp) (s : ByteArray) (bm n b sb cap : Nat) (g0 : Value) (w : World) (hF : F.answers w.tape) (hcell : w.cell? ⟨0, 0, none⟩ = some (.map (some bm))) (hown : w.ownsMap Ybaf.prog 22 (plainElem Ybaf.prog 9) bm n D0)
    (hg : w.cell? ⟨b, 0, none⟩ = some g0) (hgf : w.frozen? ⟨b, 0, none⟩ = false) (hbw : b < w.heap.size)
    (hc : ∀ j (hj : j < s.data.size), w.cell? ⟨sb, j, none⟩ = some (.int .u8 (s.data[j].toNat : Int))) :
    Calls Ybaf.prog 8 #[.pointer (some ⟨b, 0, none⟩), .slice (some ⟨sb, 0, none⟩) s.size cap] w fun e w' =>
      (val s.data.toList ≠ 0 ∧ e = .returned .nilIface ∧ ∃ w1, Below w.heap.size w w1 ∧ w1.cell? ⟨b, 0, none⟩ = some g0 ∧ w' = w1.setCell ⟨b, 0, none⟩ (.int .i64 (val s.data.toList))) ∨
      (val s.data.toList = 0 ∧ (∃ x, e = .returned (.iface 41 (.pointer (some x)))) ∧ Below w.heap.size w w') := by
  have hconv := conv_back (cap := cap) hc
  clear hc
  go_enter Ybaf.func8, Ybaf.ntmps8
  go_wp2_with fail
  refine (parse_any F s bm n _ hF hcell hown).mono ?_
  rintro e w1 ⟨hb, ⟨hv, rfl⟩ | ⟨hv, a, rfl⟩⟩
  · have hg1 : w1.cell? ⟨b, 0, none⟩ = some g0 := (hb.cell (by exact hbw)).trans hg
    have hf1 : w1.frozen? ⟨b, 0, none⟩ = false := (hb.frozen (by exact hbw)).trans hgf
    have HV : Hid (val s.data.toList ≠ 0) := hv
    clear hF hcell hown hg hgf hconv hv
    go_wp2
    go_ret
    exact .inl ⟨HV.out, rfl, w1, hb, hg1, rfl⟩
  · have HV : Hid (val s.data.toList = 0) := hv
    clear hF hcell hown hg hgf hconv hv
    go_wp2
    go_ret
    exact .inr ⟨HV.out, ⟨a, rfl⟩, hb⟩

end Go.Proofs.YbulkabxgFmt
