/-
  PLAIN MATHEMATICS, no walk: the case table of the time formats, as a function of a text's bytes ('val': 0 is 'none of them'), and what the listed map says of it.
-/
import Derived.Test.YbulkabxgFmtRows
import Derived.Maps.Views
namespace Go.Proofs.YbulkabxgFmt

/-- The case table: dec, hex, HEX; 0 for every other text. -/
def val (l : List UInt8) : Int := if l = [100, 101, 99] then 1 else if l = [104, 101, 120] then 2 else if l = [72, 69, 88] then 3 else 0

/-- The listed map, as data. -/
def D0 : DataW Unit := Rows.laid_example_com_streamsign_streamsign_timeFormatNames

theorem val_cases (l : List UInt8) : (l = [100, 101, 99] ∧ val l = 1) ∨ (l = [104, 101, 120] ∧ val l = 2) ∨ (l = [72, 69, 88] ∧ val l = 3) ∨ (l ≠ [100, 101, 99] ∧ l ≠ [104, 101, 120] ∧ l ≠ [72, 69, 88] ∧ val l = 0) := by
  unfold val
  by_cases h1 : l = [100, 101, 99]
  · exact .inl ⟨h1, by rw [if_pos h1]⟩
  · by_cases h2 : l = [104, 101, 120]
    · exact .inr (.inl ⟨h2, by rw [if_neg h1, if_pos h2]⟩)
    · by_cases h3 : l = [72, 69, 88]
      · exact .inr (.inr (.inl ⟨h3, by rw [if_neg h1, if_neg h2, if_pos h3]⟩))
      · exact .inr (.inr (.inr ⟨h1, h2, h3, by rw [if_neg h1, if_neg h2, if_neg h3]⟩))

theorem val_bd (l : List UInt8) : 0 ≤ val l ∧ val l ≤ 3 := by
  rcases val_cases l with ⟨_, h⟩ | ⟨_, h⟩ | ⟨_, h⟩ | ⟨_, _, _, h⟩ <;> omega

theorem val_inj {l m : List UInt8} (h : val l = val m) (h0 : val l ≠ 0) : l = m := by
  rcases val_cases l with ⟨a, ha⟩ | ⟨a, ha⟩ | ⟨a, ha⟩ | ⟨_, _, _, ha⟩ <;> rcases val_cases m with ⟨b, hb⟩ | ⟨b, hb⟩ | ⟨b, hb⟩ | ⟨_, _, _, hb⟩ <;> first | omega | (rw [a, b])

/-- At the start every known text's entry is still to come. -/
theorem left_start (l : List UInt8) (h : val l ≠ 0) : Maps.has D0 (.int .i64 (val l)) = true := by
  rcases val_cases l with ⟨_, ha⟩ | ⟨_, ha⟩ | ⟨_, ha⟩ | ⟨_, _, _, ha⟩
  · rw [ha]; rfl
  · rw [ha]; rfl
  · rw [ha]; rfl
  · exact absurd ha h

/-- An entry of the listed map: its key is its text's number. -/
theorem at_key {x : Int} {l : List UInt8} (h : ∀ zd, D0.atKey (.int .i64 x) zd = .lit (.string l)) : x = val l ∧ val l ≠ 0 := by
  have hn := h .nil
  by_cases h1 : x = 1
  · subst h1
    have : l = [100, 101, 99] := by
      have e : D0.atKey (.int .i64 1) .nil = .lit (.string [100, 101, 99]) := rfl
      rw [e] at hn; simpa using hn.symm
    subst this; exact ⟨rfl, by decide⟩
  · by_cases h2 : x = 2
    · subst h2
      have : l = [104, 101, 120] := by
        have e : D0.atKey (.int .i64 2) .nil = .lit (.string [104, 101, 120]) := rfl
        rw [e] at hn; simpa using hn.symm
      subst this; exact ⟨rfl, by decide⟩
    · by_cases h3 : x = 3
      · subst h3
        have : l = [72, 69, 88] := by
          have e : D0.atKey (.int .i64 3) .nil = .lit (.string [72, 69, 88]) := rfl
          rw [e] at hn; simpa using hn.symm
        subst this; exact ⟨rfl, by decide⟩
      · have e : D0.atKey (.int .i64 x) .nil = .nil := by
          have g1 : ¬ (1 : Int) = x := fun e => h1 e.symm
          have g2 : ¬ (2 : Int) = x := fun e => h2 e.symm
          have g3 : ¬ (3 : Int) = x := fun e => h3 e.symm
          simp [D0, Rows.laid_example_com_streamsign_streamsign_timeFormatNames, DataW.atKey, Lit.sameKey, g1, g2, g3]
        rw [e] at hn; cases hn

/-- An entry that did not match is struck: a known text's entry is still to come. -/
theorem left_step {left : Lit → Bool} {x : Int} {l m : List UInt8} (hl : val l ≠ 0 → left (.int .i64 (val l)) = true) (hx : x = val m) (hm : val m ≠ 0) (hne : m ≠ l) :
    val l ≠ 0 → (left (.int .i64 (val l)) && !(Lit.int .i64 (val l)).sameKey (.int .i64 x)) = true := by
  intro h0
  rw [hl h0]
  have : ¬ val l = x := fun e => hne (val_inj (by rw [← hx, e]) hm)
  simp [Lit.sameKey, this]

end Go.Proofs.YbulkabxgFmt
