/-
  THE WALK OF LawS1397APick, out of the contracts.
-/
import Derived.Test.YbulkabxgFmtWalkC
namespace Go.Proofs.YbulkabxgFmt
open Go.RowKit Go.Extern.Stop Go.Stop Go.Extern Go.Maps

theorem hid {p : Prop} (h : p) : Hid p := h

theorem lt_of_cell {w : World} {a : Addr} {v : Value} (h : w.cell? a = some v) : a.block < w.heap.size := by
  cases Nat.lt_or_ge a.block w.heap.size with
  | inl h => exact h
  | inr hge =>
    have : w.heap[a.block]? = none := by simpa using hge
    simp [World.cell?, this] at h

theorem owns_below {H : Type} {P : Program} {k : TypeId} {R : Value → Option (DataW H × List MemPlace)} {b n B : Nat} {D : DataW H} {w w' : World} (h : w.ownsMap P k R b n D) (hb : Below B w w') (hlt : b < B) : w'.ownsMap P k R b n D := by
  obtain ⟨es, clock, h1, h2, h3, h4⟩ := h
  exact ⟨es, clock, by rw [hb.block b hlt]; exact h1, h2, h3, h4⟩

theorem owns_lt {H : Type} {P : Program} {k : TypeId} {R : Value → Option (DataW H × List MemPlace)} {b n : Nat} {D : DataW H} {w : World} (h : w.ownsMap P k R b n D) : b < w.heap.size := by
  obtain ⟨es, clock, h1, _⟩ := h
  exact (Array.getElem?_eq_some_iff.1 h1).1

/-- '[]byte(s)': a new block that holds the bytes; nothing old has turned. -/
theorem conv_lay (w0 : World) (s : ByteArray) : ∃ w2 cap, (convert 9 33 (.string s)).run Ybaf.prog w0 = .ok (.slice (some ⟨w0.heap.size, 0, none⟩) s.size cap) w2 ∧ Below w0.heap.size w0 w2 ∧ w2.heap.size = w0.heap.size + 1 ∧
    ∀ j (hj : j < s.data.size), w2.cell? ⟨w0.heap.size, j, none⟩ = some (.int .u8 (s.data[j].toNat : Int)) := by
  refine ⟨_, _, run_bytes_of_string w0 9 33 5 s Ybaf.underlying9 Ybaf.underlying33 Ybaf.underlying5, ((Below.refl _ _).drew).alloc (Nat.le_refl _) _, by simp, fun j hj => ?_⟩
  have h := World.cell?_alloc_mark w0.drew (bytesRow s (grownCap w0 s.size 0 5)) 5 ((bytesRow s (grownCap w0 s.size 0 5)).size, (bytesRow s (grownCap w0 s.size 0 5)).size + 1) j
  exact h.trans (bytesRow_at s _ j hj)

/-- The world behind 'g := ..' and '[]byte(s)', as the call of UnmarshalText finds it. -/
theorem ready (F : Interp) (s : ByteArray) (bm n : Nat) (st : Int) (W w1 : World) (hF : F.answers W.tape) (hcell : W.cell? ⟨0, 0, none⟩ = some (.map (some bm))) (hown : W.ownsMap Ybaf.prog 22 (plainElem Ybaf.prog 9) bm n D0) (hb : Below W.heap.size W w1) :
    ∃ w2 cap, (convert 9 33 (.string s)).run Ybaf.prog (w1.alloc (.cells #[.int .i64 st] 22)) = .ok (.slice (some ⟨w1.heap.size + 1, 0, none⟩) s.size cap) w2 ∧ Below W.heap.size W w2 ∧ F.answers w2.tape ∧
      w2.cell? ⟨0, 0, none⟩ = some (.map (some bm)) ∧ w2.ownsMap Ybaf.prog 22 (plainElem Ybaf.prog 9) bm n D0 ∧ w2.cell? ⟨w1.heap.size, 0, none⟩ = some (.int .i64 st) ∧ w2.frozen? ⟨w1.heap.size, 0, none⟩ = false ∧ w1.heap.size < w2.heap.size ∧
      ∀ j (hj : j < s.data.size), w2.cell? ⟨w1.heap.size + 1, j, none⟩ = some (.int .u8 (s.data[j].toNat : Int)) := by
  obtain ⟨w2, cap, hrun, hbel, hsize, hc⟩ := conv_lay (w1.alloc (.cells #[.int .i64 st] 22)) s
  have e : (w1.alloc (.cells #[.int .i64 st] 22)).heap.size = w1.heap.size + 1 := by simp
  rw [e] at hrun hbel hsize hc
  have hle := hb.size
  have hbW : Below W.heap.size W w2 := (hb.alloc hb.size _).trans (hbel.mono (by omega))
  refine ⟨w2, cap, hrun, hbW, by rw [hbW.tape]; exact hF, (hbW.cell (lt_of_cell hcell)).trans hcell, owns_below hown hbW (owns_lt hown), ?_, ?_, by omega, hc⟩
  · rw [hbel.cell (show w1.heap.size < w1.heap.size + 1 by omega)]
    simp
  · rw [hbel.frozen (show w1.heap.size < w1.heap.size + 1 by omega)]
    simp

set_option maxHeartbeats 1000000 in
set_option maxRecDepth 1000000 in
theorem pick_main (F : Interp) (k st : Int) (t : ByteArray) (bm n : Nat) (w : World) (hF : F.answers w.tape) (hcell : w.cell? ⟨0, 0, none⟩ = some (.map (some bm))) (hown : w.ownsMap Ybaf.prog 22 (plainElem Ybaf.prog 9) bm n D0)
    (hk0 : 0 ≤ k) (hk1 : k ≤ 255) (hs0 : -128 ≤ st) (hs1 : st ≤ 127) (ht : t.size ≤ 1024) :
    Calls Ybaf.prog 4 #[.int .u8 k, .int .i8 st, .string t] w fun e w' => e = .returned (.bool true) ∧ Below w.heap.size w w' := by
  have HF : Hid (F.answers w.tape) := hF
  have HO : Hid (w.ownsMap Ybaf.prog 22 (plainElem Ybaf.prog 9) bm n D0) := hown
  clear hF hown
  go_enter Ybaf.func4, Ybaf.ntmps4
  go_wp2_with fail
  refine (name_any _ _ hk0 hk1).mono ?_
  rintro e W ⟨nm, hnm, rfl, hw⟩
  subst hw
  go_wp2_with fail
  obtain ⟨s, hs⟩ : ∃ s : ByteArray, s = nm ++ t := ⟨_, rfl⟩
  have hsz : s.size ≤ 1027 := by rw [hs, ByteArray.size_append]; omega
  rw [← hs]
  clear hs hnm
  refine (parse_any F s bm n _ HF.out hcell HO.out).mono ?_
  rintro e w1 ⟨hb, ⟨hv, rfl⟩ | ⟨hv, a, rfl⟩⟩
  · have hv' : (val s.data.toList != 0) = true := by simpa using hv
    obtain ⟨w2, cap, hrun, hbW, hF2, hc2, ho2, hg2, hf2, hl2, hby⟩ := ready F s bm n st W w1 HF.out hcell HO.out hb
    have hle := hb.size
    have U := hid (unm_any F s bm n w1.heap.size (w1.heap.size + 1) cap _ w2 hF2 hc2 ho2 hg2 hf2 hl2 hby)
    have HB : Hid (Below W.heap.size W w2) := hbW
    clear hb hbW hF2 hc2 ho2 hg2 hf2 hby hcell
    have HV : Hid (val s.data.toList ≠ 0) := hv
    clear hv
    go_wp2_with (go_at_call 6; refine (expect_any _ _).mono ?_; rintro e w' ⟨rfl, rfl⟩)
    refine U.out.mono ?_
    rintro e w3 (⟨_, rfl, w4, hb4, hg4, rfl⟩ | ⟨h0, _⟩)
    · have HB4 : Hid (Below w2.heap.size w2 w4) := hb4
      clear U hrun hb4
      go_wp2
      go_ret
      exact ⟨rfl, (HB.out.trans (HB4.out.mono HB.out.size)).setCell hle _⟩
    · exact absurd h0 HV.out
  · have hv' : (val s.data.toList != 0) = false := by simp [hv]
    obtain ⟨w2, cap, hrun, hbW, hF2, hc2, ho2, hg2, hf2, hl2, hby⟩ := ready F s bm n st W w1 HF.out hcell HO.out hb
    have hle := hb.size
    have U := hid (unm_any F s bm n w1.heap.size (w1.heap.size + 1) cap _ w2 hF2 hc2 ho2 hg2 hf2 hl2 hby)
    have HB : Hid (Below W.heap.size W w2) := hbW
    have HG : Hid (w2.cell? ⟨w1.heap.size, 0, none⟩ = some (.int .i64 st)) := hg2
    clear hb hbW hF2 hc2 ho2 hg2 hf2 hby hcell
    have HV : Hid (val s.data.toList = 0) := hv
    clear hv
    go_wp2_with (go_at_call 6; refine (expect_any _ _).mono ?_; rintro e w' ⟨rfl, rfl⟩)
    refine U.out.mono ?_
    rintro e w3 (⟨h0, _⟩ | ⟨_, ⟨x, rfl⟩, hb3⟩)
    · exact absurd HV.out h0
    · have HB3 : Hid (Below w2.heap.size w2 w3) := hb3
      have hg3 := (hb3.cell (by exact hl2)).trans HG.out
      clear U hrun hb3
      go_wp2
      go_ret
      exact ⟨rfl, HB.out.trans (HB3.out.mono HB.out.size)⟩

end Go.Proofs.YbulkabxgFmt
