/-
  THE WALK OF LawS1397CPrefix: 'make' within a known capacity, an append a round, string(b) + tail, hasScheme by its contract.
-/
import Derived.Test.YbulkabxgWalkA
import Derived.OpenShut
import Derived.Laws.IdiomStrings
import Derived.Laws.OwnMore
namespace Go.Proofs.Ybulkabxg
open Go.RowKit

theorem Yba.info5 : (Yba.prog.info? 5).map (fun i => (i.zero, i.size, i.bytes)) = some (some (.int .u8 0), 1, 1) := by kernel_rfl

/-- What the walks are told of a slice of bytes that came in. -/
def View (w : World) (a : Option Addr) (len : Nat) (zs : List Int) : Prop :=
  ∀ i, i < len → ∃ b off, a = some ⟨b, off, none⟩ ∧ b < w.heap.size ∧ w.cell? ⟨b, off + i, none⟩ = some (.int .u8 (zs.getD i 0)) ∧ 0 ≤ zs.getD i 0 ∧ zs.getD i 0 ≤ 255

theorem lt_of_cell {w : World} {a : Addr} {v : Value} (h : w.cell? a = some v) : a.block < w.heap.size := by
  cases Nat.lt_or_ge a.block w.heap.size with
  | inl h => exact h
  | inr hge =>
    have : w.heap[a.block]? = none := by simpa using hge
    simp [World.cell?, this] at h

theorem view_of {w : World} {a : Option Addr} {len cap : Nat} {zs : List Int}
    (h : (a = none ∧ len = 0 ∧ cap = 0 ∧ zs = []) ∨
      ∃ x, a = some x ∧ len ≤ cap ∧ cap ≤ maxLen ∧ zs.length = cap ∧ (∀ i, i < zs.length → w.cell? (x.add i) = some (.int .u8 (zs.getD i 0))) ∧ ∀ n ∈ zs, (Lit.int .u8 n).wf = true) :
    View w a len zs := by
  intro i hi
  rcases h with ⟨_, h0, _, _⟩ | ⟨x, rfl, h1, _, h3, h4, h5⟩
  · omega
  · obtain ⟨b, off, rfl, hc⟩ := ints_at h4 (by omega)
    have hci := hc i (by omega)
    have hw : (Lit.int .u8 (zs.getD i 0)).wf = true := by
      have : zs.getD i 0 = zs[i]'(by omega) := by simp [List.getD, show i < zs.length by omega]
      rw [this]; exact h5 _ (List.getElem_mem _)
    refine ⟨b, off, rfl, lt_of_cell hci, hci, ?_⟩
    have := bounds_u8 hw
    exact this

/-- A byte as a value. -/
def byteV (c : UInt8) : Value := .int .u8 (c.toNat : Int)

/-- The law's own table, at an index that is one of its eight. -/
theorem tbl_at (m : Int) (h0 : 0 ≤ m) (h8 : m < 8) :
    ∃ c : UInt8, schB (c.toNat : Int) = true ∧ ∀ w, (Instr.index 9 (.string { data := #[97, 90, 109, 48, 57, 43, 45, 46] }) (.int .i64 m)).run Yba.prog w = .ok (.int .u8 (c.toNat : Int)) w := by
  have hs : ByteArray.size { data := #[97, 90, 109, 48, 57, 43, 45, 46] } = 8 := rfl
  have hlt : m.toNat < ByteArray.size { data := #[97, 90, 109, 48, 57, 43, 45, 46] } := by rw [hs]; omega
  refine ⟨(ByteArray.mk #[97, 90, 109, 48, 57, 43, 45, 46])[m.toNat]'hlt, ?_, fun w => ?_⟩
  · rcases (show m = 0 ∨ m = 1 ∨ m = 2 ∨ m = 3 ∨ m = 4 ∨ m = 5 ∨ m = 6 ∨ m = 7 by omega) with rfl | rfl | rfl | rfl | rfl | rfl | rfl | rfl <;> rfl
  · rw [run_index_string w 9 _ .i64 m Yba.underlying9, dif_pos ⟨h0, by rw [hs]; omega⟩]

/-- 'string(b)', b a row of the call's own that holds the bytes l. -/
theorem conv_own {w : World} {B g n cap : Nat} {l : List UInt8} (hown : w.ownsRow B 5 1 (.slice (some ⟨g, 0, none⟩) n cap) n (l.map byteV)) (hn : l.length = n) :
    (convert 23 9 (.slice (some ⟨g, 0, none⟩) n cap)).run Yba.prog w = .ok (.string ⟨l.toArray⟩) w := by
  subst hn
  refine run_convert_bytes_back w 23 9 5 _ cap l Yba.underlying23 Yba.underlying5 Yba.underlying9 fun j hj => ?_
  have := hown.cellAt j (by omega)
  rw [Addr.add_lit, Nat.zero_add, this]
  simp [byteV, hj]

theorem bat_front (l : List UInt8) (t : ByteArray) (i : Nat) (hi : i < l.length) : bat (⟨l.toArray⟩ ++ t) i = ((l.getD i 0).toNat : Int) := by
  unfold bat
  rw [ByteArray.data_append]
  simp only [Array.toList_append, List.getD_eq_getElem?_getD, List.getElem?_append_left hi]

theorem sch_built (bs : List UInt8) (t : ByteArray) (hbs : ∀ c ∈ bs, schB (c.toNat : Int) = true) : sch (⟨((113 : UInt8) :: (bs ++ [58])).toArray⟩ ++ t) = true := by
  have hat := bat_front ((113 : UInt8) :: (bs ++ [58])) t
  have hlen : ((113 : UInt8) :: (bs ++ [58])).length = bs.length + 2 := by simp
  rw [sch_iff]
  refine ⟨bs.length + 1, ?_, by omega, ?_, ?_, fun j hj => ?_⟩
  · rw [ByteArray.size_append]
    show bs.length + 1 < ((113 : UInt8) :: (bs ++ [58])).toArray.size + _
    simp; omega
  · rw [hat _ (by omega)]
    simp
  · rw [hat _ (by omega)]
    rfl
  · rw [hat _ (by omega)]
    cases j with
    | zero => rfl
    | succ j =>
      have hj' : j < bs.length := by omega
      have : ((113 : UInt8) :: (bs ++ [58])).getD (j + 1) 0 = bs[j] := by simp [List.getD, List.getElem?_append_left hj', hj']
      rw [this]
      exact hbs _ (List.getElem_mem _)

set_option maxHeartbeats 1000000 in
set_option maxRecDepth 1000000 in
theorem lead_main (a0 : Option Addr) (len cap : Nat) (zs : List Int) (t : ByteArray) (w : World) (hv : View w a0 len zs) (hlen : len ≤ 1024) (ht : t.size ≤ 4096) :
    Calls Yba.prog 5 #[.slice a0 len cap, .string t] w fun e w' => e = .returned (.bool true) ∧ Below w.heap.size w w' := by
  obtain ⟨i0, hi, hz0, hz1, hz2⟩ := info_parts Yba.info5
  go_enter Yba.func5, Yba.ntmps5
  go_wp2_with (first
    | (at_make; refine wpList_make_own _ rfl _ _ 23 rfl w.heap.size 5 i0 (.int .u8 0) 1 Yba.underlying23 hi hz0 hz1 _ _ _ (len + 2) rfl rfl (by omega) ?b2 ?b3 (Nat.le_refl _) ?_))
  case b2 => rw [hz2]; omega
  case b3 => unfold maxLen; omega
  intro w0 hown0 hgrow0
  have hb0 : Below w.heap.size w w0 := (Below.refl _ _).grown hgrow0 (Nat.le_refl _) (fun k h => by cases h)
  clear hgrow0
  go_wp2_with (at_builtin; refine wpList_append_fits _ rfl (.tmp 20) (.tmp 21) 23 rfl w.heap.size 5 i0 1 Yba.underlying23 hi hz1 w.heap.size 0 (len + 2) _ rfl (hown0.alloc _) ⟨w0.heap.size, 0, none⟩ 1 1 [.int .u8 113] rfl rfl ?c1 ?c2 ?c3 ?_)
  case c1 =>
    intro j u hj
    match j, hj with
    | 0, hj => simp at hj; subst hj; simp [Addr.add]
  case c2 => intro u hu; simp at hu; subst hu; rfl
  case c3 => omega
  intro w1 hown1 hgrow1
  have hb1 : Below w.heap.size w w1 := (hb0.alloc hb0.size _).grown hgrow1 (by simp; have := hb0.size; omega) (fun k hk => by cases hk; exact Nat.le_refl _)
  clear hgrow1 hown0 hb0
  go_wp2
  go_loopw [5, 25] (fun v i wr => ∃ (k : Nat) (bs : List UInt8), k ≤ len ∧ i = .int .i64 k ∧ bs.length = k ∧ (∀ c ∈ bs, schB (c.toNat : Int) = true) ∧ v = .slice (some ⟨w.heap.size, 0, none⟩) (k + 1) (len + 2) ∧
      wr.ownsRow w.heap.size 5 1 (.slice (some ⟨w.heap.size, 0, none⟩) (k + 1) (len + 2)) (k + 1) (((113 : UInt8) :: bs).map byteV) ∧ Below w.heap.size w wr)
    (fun _ i _ => len - (intOf i).toNat)
  case atStart => exact ⟨0, [], Nat.zero_le _, rfl, rfl, by simp, rfl, hown1, hb1⟩
  case round =>
    obtain ⟨k, bs, hk, rfl, hbl, hbs, rfl, hown, hbel⟩ := hrel
    have HB : Hid (bs.length = k) := hbl
    clear hbl hown1 hb1
    by_cases hlt : k < len
    · obtain ⟨b, off, rfl, hbw, hcell, hx0, hx1⟩ := hv k hlt
      have hcx : wr.cell? ⟨b, off + k, none⟩ = some (.int .u8 (zs.getD k 0)) := (hbel.cell (by exact hbw)).trans hcell
      obtain ⟨x, hx⟩ : ∃ x, x = zs.getD k 0 := ⟨_, rfl⟩
      rw [← hx] at hcx hx0 hx1
      clear hcell hx hv
      obtain ⟨c, hc, hidx⟩ := tbl_at (x % 8) (by omega) (by omega)
      have HC : Hid (schB (c.toNat : Int) = true) := hc
      have HBS : Hid (∀ c ∈ bs, schB (c.toNat : Int) = true) := hbs
      clear hc hbs
      go_wp2_with (at_builtin; refine wpList_append_fits _ rfl (.tmp 29) (.tmp 34) 23 rfl w.heap.size 5 i0 1 Yba.underlying23 hi hz1 w.heap.size (k + 1) (len + 2) _ rfl (hown.alloc _) ⟨wr.heap.size, 0, none⟩ 1 1 [byteV c] rfl rfl ?d1 ?d2 ?d3 ?_)
      case d1 =>
        intro j u hj
        match j, hj with
        | 0, hj => simp at hj; subst hj; simp [Addr.add, byteV]
      case d2 => intro u hu; simp at hu; subst hu; rfl
      case d3 => omega
      intro w2 hown2 hgrow2
      have hb2 : Below w.heap.size w w2 := (hbel.alloc hbel.size _).grown hgrow2 (by simp; have := hbel.size; omega) (fun k hk => by cases hk; exact Nat.le_refl _)
      have e2 : byteV 113 :: (List.map byteV bs ++ [byteV c]) = List.map byteV ((113 : UInt8) :: (bs ++ [c])) := by simp
      rw [e2] at hown2
      clear hgrow2 hown hbel hcx hidx
      go_wp2
      go_roundw
      case rel => exact ⟨k + 1, bs ++ [c], by omega, by go_num, by simp [HB.out], by simpa [or_imp, forall_and] using ⟨HBS.out, HC.out⟩, rfl, hown2, hb2⟩
      case measure => simp [intOf]; omega
    · have hkl : k = len := by omega
      subst hkl
      have HBS : Hid (∀ c ∈ bs, schB (c.toNat : Int) = true) := hbs
      clear hbs hv
      go_wp2_with (at_builtin; refine wpList_append_fits _ rfl (.tmp 37) (.tmp 38) 23 rfl w.heap.size 5 i0 1 Yba.underlying23 hi hz1 w.heap.size (k + 1) (k + 2) _ rfl (hown.alloc _) ⟨wr.heap.size, 0, none⟩ 1 1 [byteV 58] rfl rfl ?e1 ?e2 ?e3 ?_)
      case e1 =>
        intro j u hj
        match j, hj with
        | 0, hj => simp at hj; subst hj; simp [Addr.add, byteV]
      case e2 => intro u hu; simp at hu; subst hu; rfl
      case e3 => omega
      intro w2 hown2 hgrow2
      have hb2 : Below w.heap.size w w2 := (hbel.alloc hbel.size _).grown hgrow2 (by simp; have := hbel.size; omega) (fun k hk => by cases hk; exact Nat.le_refl _)
      clear hgrow2 hown hbel
      have e2 : byteV 113 :: (List.map byteV bs ++ [byteV 58]) = List.map byteV ((113 : UInt8) :: (bs ++ [58])) := by simp
      rw [e2] at hown2
      have hconv := conv_own hown2 (by simp [HB.out])
      obtain ⟨s, hs⟩ : ∃ s : ByteArray, s = ⟨((113 : UInt8) :: (bs ++ [58])).toArray⟩ := ⟨_, rfl⟩
      have hsz : s.size = k + 2 := by rw [hs]; show ((113 : UInt8) :: (bs ++ [58])).toArray.size = _; simp [HB.out]
      have hsm : s.size ≤ 1026 := by omega
      have HS : Hid (sch (s ++ t) = true) := by rw [hs]; exact sch_built bs t HBS.out
      have hst : (s ++ t).size ≤ maxLen := by rw [ByteArray.size_append]; unfold maxLen; omega
      rw [← hs] at hconv
      clear hs hown2 e2 hsz
      go_wp2_with (go_at_call 6; refine (hasScheme_any _ _ hst).mono ?_; rintro e w' ⟨rfl, rfl⟩)
      go_ret
      exact ⟨ret_bool HS.out, hb2⟩

end Go.Proofs.Ybulkabxg
