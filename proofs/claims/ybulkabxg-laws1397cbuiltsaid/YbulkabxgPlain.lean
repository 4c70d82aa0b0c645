/-
  PLAIN MATHEMATICS, no walk: what 'begins with a scheme and its colon' says of a string's bytes, as a Bool ('sch'), and the small laws by which each way out of the two Go functions (hasScheme, zzs1397cmodel) is closed.
-/
import Derived.WalkKit
namespace Go.Proofs.Ybulkabxg

/-- A letter, as an integer. -/
def ltrB (c : Int) : Bool := decide (97 ≤ c ∧ c ≤ 122) || decide (65 ≤ c ∧ c ≤ 90)
/-- A character of a scheme. -/
def schB (c : Int) : Bool := ltrB c || decide (48 ≤ c ∧ c ≤ 57) || decide (c = 43) || decide (c = 45) || decide (c = 46)
/-- Byte number i of a string (0 beyond its end). -/
def bat (s : ByteArray) (i : Nat) : Int := ((s.data.toList.getD i 0).toNat : Int)

theorem bat_eq (s : ByteArray) (i : Nat) (h : i < s.size) : (s[i].toNat : Int) = bat s i := by
  unfold bat
  have h' : i < s.data.size := h
  have : s.data.toList.getD i 0 = s[i] := by
    rw [List.getD_eq_getElem?_getD, List.getElem?_eq_getElem (by simpa using h')]
    rfl
  rw [this]

theorem bat_bd (s : ByteArray) (i : Nat) : 0 ≤ bat s i ∧ bat s i ≤ 255 := by
  unfold bat
  have := (s.data.toList.getD i 0).toNat_lt
  omega

theorem ltrB_iff (c : Int) : ltrB c = true ↔ (97 ≤ c ∧ c ≤ 122) ∨ (65 ≤ c ∧ c ≤ 90) := by simp [ltrB]
theorem schB_iff (c : Int) : schB c = true ↔ ((97 ≤ c ∧ c ≤ 122) ∨ (65 ≤ c ∧ c ≤ 90)) ∨ (48 ≤ c ∧ c ≤ 57) ∨ c = 43 ∨ c = 45 ∨ c = 46 := by
  simp [schB, ltrB]; omega
theorem schB_split (c : Int) : schB c = true ↔ ltrB c = true ∨ (48 ≤ c ∧ c ≤ 57) ∨ c = 43 ∨ c = 45 ∨ c = 46 := by
  rw [schB_iff, ltrB_iff]
theorem ltrB_schB {c : Int} (h : ltrB c = true) : schB c = true := by rw [ltrB_iff] at h; rw [schB_iff]; omega
theorem schB_ne {c : Int} (h : schB c = true) : c ≠ 58 := by rw [schB_iff] at h; omega
theorem ltrB_ne {c : Int} (h : ltrB c = true) : c ≠ 58 := by rw [ltrB_iff] at h; omega

/-- 'The string begins with a scheme and its colon'. -/
def sch (s : ByteArray) : Bool :=
  (List.range s.size).any fun k => decide (0 < k) && decide (bat s k = 58) && ltrB (bat s 0) && (List.range k).all fun j => schB (bat s j)

theorem sch_iff (s : ByteArray) : sch s = true ↔ ∃ k, k < s.size ∧ 0 < k ∧ bat s k = 58 ∧ ltrB (bat s 0) = true ∧ ∀ j, j < k → schB (bat s j) = true := by
  simp [sch, and_assoc]

theorem sch_no {s : ByteArray} (h : ∀ k, k < s.size → 0 < k → bat s k = 58 → ltrB (bat s 0) = true → (∀ j, j < k → schB (bat s j) = true) → False) : sch s = false := by
  cases hb : sch s with
  | false => rfl
  | true =>
    obtain ⟨k, h1, h2, h3, h4, h5⟩ := (sch_iff s).1 hb
    exact (h k h1 h2 h3 h4 h5).elim

/-- What hasScheme knows at the head of round k. -/
def Pre (s : ByteArray) (k : Nat) : Prop := (0 < k → ltrB (bat s 0) = true) ∧ ∀ j, j < k → schB (bat s j) = true
theorem Pre.zero (s : ByteArray) : Pre s 0 := ⟨fun h => absurd h (Nat.lt_irrefl _), fun _ h => absurd h (Nat.not_lt_zero _)⟩
theorem Pre.letter {s : ByteArray} {k : Nat} (h : Pre s k) (hl : ltrB (bat s k) = true) : Pre s (k + 1) := by
  refine ⟨fun _ => ?_, fun j hj => ?_⟩
  · by_cases h0 : 0 < k
    · exact h.1 h0
    · have : k = 0 := by omega
      subst this; exact hl
  · by_cases e : j = k
    · subst e; exact ltrB_schB hl
    · exact h.2 j (by omega)
theorem Pre.other {s : ByteArray} {k : Nat} (h : Pre s k) (h0 : 0 < k) (hl : schB (bat s k) = true) : Pre s (k + 1) := by
  refine ⟨fun _ => h.1 h0, fun j hj => ?_⟩
  by_cases e : j = k
  · subst e; exact hl
  · exact h.2 j (by omega)
theorem Pre.colon {s : ByteArray} {k : Nat} (h : Pre s k) (hk : k < s.size) (hc : bat s k = 58) : sch s = decide ((0 : Int) < (k : Int)) := by
  by_cases h0 : 0 < k
  · rw [(sch_iff s).2 ⟨k, hk, h0, hc, h.1 h0, h.2⟩]
    simp; omega
  · have : k = 0 := by omega
    subst this
    rw [sch_no (fun _ _ _ _ h4 _ => ltrB_ne h4 hc)]
    simp
theorem Pre.wrong {s : ByteArray} {k : Nat} (h : Pre s k) (hl : ltrB (bat s k) = false) (ho : 0 < k → schB (bat s k) = false) (hc : bat s k ≠ 58) : sch s = false := by
  refine sch_no fun k' _ h2 h3 h4 h5 => ?_
  rcases Nat.lt_trichotomy k' k with hlt | heq | hgt
  · exact schB_ne (h.2 k' hlt) h3
  · subst heq; exact hc h3
  · by_cases h0 : 0 < k
    · have := h5 k hgt; rw [ho h0] at this; cases this
    · have e : k = 0 := by omega
      subst e; rw [hl] at h4; cases h4
theorem Pre.ends {s : ByteArray} {k : Nat} (h : Pre s k) (hk : s.size ≤ k) : sch s = false :=
  sch_no fun k' h1 _ h3 _ _ => schB_ne (h.2 k' (by omega)) h3

/-- What the model knows at the head of its outer round k. -/
def NoColon (s : ByteArray) (k : Nat) : Prop := ∀ j, j < k → bat s j ≠ 58
theorem NoColon.zero (s : ByteArray) : NoColon s 0 := fun _ h => absurd h (Nat.not_lt_zero _)
theorem NoColon.succ {s : ByteArray} {k : Nat} (h : NoColon s k) (hc : bat s k ≠ 58) : NoColon s (k + 1) := fun j hj => by
  by_cases e : j = k
  · subst e; exact hc
  · exact h j (by omega)
theorem NoColon.ends {s : ByteArray} {k : Nat} (h : NoColon s k) (hk : s.size ≤ k) : sch s = false :=
  sch_no fun k' h1 _ h3 _ _ => h k' (by omega) h3
theorem NoColon.atZero {s : ByteArray} (hc : bat s 0 = 58) : sch s = false :=
  sch_no fun _ _ _ _ h4 _ => ltrB_ne h4 hc
theorem NoColon.noLetter {s : ByteArray} (hl : ltrB (bat s 0) = false) : sch s = false :=
  sch_no fun _ _ _ _ h4 _ => by rw [hl] at h4; cases h4
theorem NoColon.badChar {s : ByteArray} {k j : Nat} (h : NoColon s k) (hj : j < k) (hb : schB (bat s j) = false) : sch s = false :=
  sch_no fun k' _ _ h3 _ h5 => by
    have hk' : k ≤ k' := Nat.le_of_not_lt fun hlt => h k' hlt h3
    have := h5 j (by omega)
    rw [hb] at this; cases this
/-- What the model's inner loop knows at its round j. -/
def Good (s : ByteArray) (j : Nat) : Prop := ∀ i, i < j → schB (bat s i) = true
theorem Good.one {s : ByteArray} (h : ltrB (bat s 0) = true) : Good s 1 := fun i hi => by
  have : i = 0 := by omega
  subst this; exact ltrB_schB h
theorem Good.succ {s : ByteArray} {j : Nat} (h : Good s j) (hc : schB (bat s j) = true) : Good s (j + 1) := fun i hi => by
  by_cases e : i = j
  · subst e; exact hc
  · exact h i (by omega)
theorem Good.yes {s : ByteArray} {j k : Nat} (h : Good s j) (hjk : k ≤ j) (h0 : 0 < k) (hk : k < s.size) (hc : bat s k = 58) (hl : ltrB (bat s 0) = true) : sch s = true :=
  (sch_iff s).2 ⟨k, hk, h0, hc, hl, fun i hi => h i (by omega)⟩

/-! ### The same in inequalities, as the walk leaves them -/
theorem Pre.step {s : ByteArray} {k : Nat} (h : Pre s k) (hc : ((97 ≤ bat s k ∧ bat s k ≤ 122) ∨ (65 ≤ bat s k ∧ bat s k ≤ 90)) ∨ (0 < k ∧ ((48 ≤ bat s k ∧ bat s k ≤ 57) ∨ bat s k = 43 ∨ bat s k = 45 ∨ bat s k = 46))) : Pre s (k + 1) := by
  rcases hc with hc | ⟨h0, hc⟩
  · exact h.letter ((ltrB_iff _).2 hc)
  · exact h.other h0 ((schB_iff _).2 (.inr hc))
theorem Pre.yes {s : ByteArray} {k : Nat} (h : Pre s k) (hk : k < s.size) (h0 : 0 < k) (hc : bat s k = 58) : sch s = true := by
  rw [h.colon hk hc]; simp; omega
theorem Pre.no {s : ByteArray} {k : Nat} (h : Pre s k) (hl : ¬ ((97 ≤ bat s k ∧ bat s k ≤ 122) ∨ (65 ≤ bat s k ∧ bat s k ≤ 90))) (ho : 0 < k → ¬ ((48 ≤ bat s k ∧ bat s k ≤ 57) ∨ bat s k = 43 ∨ bat s k = 45 ∨ bat s k = 46)) (hc : bat s k ≠ 58 ∨ k = 0) : sch s = false := by
  have el : ltrB (bat s k) = false := by
    cases e : ltrB (bat s k) with
    | false => rfl
    | true => exact absurd ((ltrB_iff _).1 e) hl
  by_cases h58 : bat s k = 58
  · have : k = 0 := by omega
    subst this
    exact NoColon.atZero h58
  · refine h.wrong el (fun h0 => ?_) h58
    cases e : schB (bat s k) with
    | false => rfl
    | true =>
      have h1 := (schB_iff _).1 e
      have h2 := ho h0
      omega

theorem ret_bool {a b : Bool} (h : a = b) : Ending.returned (.bool a) = .returned (.bool b) := by rw [h]

end Go.Proofs.Ybulkabxg
