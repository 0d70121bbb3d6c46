/-
  THE PLAIN MATHEMATICS: hex digits, hyphen places, the text of sixteen bytes. No Go in sight.
-/
namespace Go.Proofs.Qxb6001145a

/-- A hex digit's byte? -/
def hexB (c : Int) : Bool := decide (48 ≤ c ∧ c ≤ 57) || decide (97 ≤ c ∧ c ≤ 102) || decide (65 ≤ c ∧ c ≤ 70)
/-- A hyphen's place? -/
def hypB (i : Int) : Bool := decide (i = 8 ∨ i = 13 ∨ i = 18 ∨ i = 23)
/-- May c stand at place i? -/
def okAt (i : Int) (c : Int) : Bool := if hypB i then decide (c = 45) else hexB c
/-- The digit of v. -/
def hexD (v : Int) (up : Bool) : Int := if v < 10 then 48 + v else if up then 55 + v else 87 + v
/-- Is a hyphen laid ahead of byte k? -/
def cutB (k : Nat) : Bool := decide (k = 4 ∨ k = 6 ∨ k = 8 ∨ k = 10)
/-- The text of the first k bytes. -/
def fmtTo (x : Nat → Int) (up : Bool) : Nat → List Int
  | 0 => []
  | k + 1 => fmtTo x up k ++ (if cutB k then [45] else []) ++ [hexD (x k / 16) up, hexD (x k % 16) up]

theorem hexD_ok (v : Int) (up : Bool) (h0 : 0 ≤ v) (h1 : v < 16) : hexB (hexD v up) = true := by
  unfold hexB hexD
  cases up <;> by_cases h : v < 10 <;> simp [h] <;> omega

theorem hexD_byte (v : Int) (up : Bool) (h0 : 0 ≤ v) (h1 : v < 16) : 0 ≤ hexD v up ∧ hexD v up ≤ 255 := by
  unfold hexD
  cases up <;> by_cases h : v < 10 <;> simp [h] <;> omega

theorem hexB_byte {c : Int} (h : hexB c = true) : 0 ≤ c ∧ c ≤ 127 := by
  unfold hexB at h
  simp at h
  omega

theorem okAt_byte {i c : Int} (h : okAt i c = true) : 0 ≤ c ∧ c ≤ 127 := by
  unfold okAt at h
  split at h
  · simp at h; omega
  · exact hexB_byte h

theorem okAt_high (i c : Int) (h : 128 ≤ c) : okAt i c = false := by
  cases e : okAt i c with
  | false => rfl
  | true => have := okAt_byte e; omega

theorem fmt_len (x : Nat → Int) (up : Bool) : (fmtTo x up 16).length = 36 := by simp [fmtTo, cutB]

/-- How many bytes of text the first k bytes give. -/
def at16 (k : Nat) : Nat := 2 * k + (if 4 < k then 1 else 0) + (if 6 < k then 1 else 0) + (if 8 < k then 1 else 0) + (if 10 < k then 1 else 0)

theorem fmt_at (x : Nat → Int) (up : Bool) (k : Nat) : (fmtTo x up k).length = at16 k := by
  induction k with
  | zero => simp [fmtTo, at16]
  | succ k ih =>
    simp only [fmtTo, List.length_append, ih, List.length_cons, List.length_nil]
    unfold at16 cutB
    by_cases h4 : k = 4
    · subst h4; simp
    by_cases h6 : k = 6
    · subst h6; simp
    by_cases h8 : k = 8
    · subst h8; simp
    by_cases h10 : k = 10
    · subst h10; simp
    simp only [h4, h6, h8, h10, or_self, decide_false, Bool.false_eq_true, if_false, List.length_nil]
    repeat' split
    all_goals omega

theorem fmt_room (x : Nat → Int) (up : Bool) (k : Nat) (h : k < 16) : (fmtTo x up k).length + 3 ≤ 36 ∨ ((fmtTo x up k).length + 2 ≤ 36 ∧ cutB k = false) := by
  rw [fmt_at]
  by_cases hc : cutB k = true
  · left
    unfold cutB at hc
    simp at hc
    unfold at16
    rcases hc with rfl | rfl | rfl | rfl <;> simp
  · right
    refine ⟨?_, by simpa using hc⟩
    unfold at16
    repeat' split
    all_goals omega

theorem fmt_ok (x : Nat → Int) (up : Bool) (hx : ∀ i, i < 16 → 0 ≤ x i ∧ x i ≤ 255) : ∀ i : Nat, i < 36 → okAt i ((fmtTo x up 16).getD i 0) = true := by
  have a : ∀ i, i < 16 → hexB (hexD (x i / 16) up) = true := fun i hi => hexD_ok _ _ (by have := hx i hi; omega) (by have := hx i hi; omega)
  have b : ∀ i, i < 16 → hexB (hexD (x i % 16) up) = true := fun i hi => hexD_ok _ _ (by have := hx i hi; omega) (by have := hx i hi; omega)
  have e : fmtTo x up 16 = [hexD (x 0 / 16) up, hexD (x 0 % 16) up, hexD (x 1 / 16) up, hexD (x 1 % 16) up, hexD (x 2 / 16) up, hexD (x 2 % 16) up, hexD (x 3 / 16) up, hexD (x 3 % 16) up, 45,
      hexD (x 4 / 16) up, hexD (x 4 % 16) up, hexD (x 5 / 16) up, hexD (x 5 % 16) up, 45, hexD (x 6 / 16) up, hexD (x 6 % 16) up, hexD (x 7 / 16) up, hexD (x 7 % 16) up, 45,
      hexD (x 8 / 16) up, hexD (x 8 % 16) up, hexD (x 9 / 16) up, hexD (x 9 % 16) up, 45, hexD (x 10 / 16) up, hexD (x 10 % 16) up, hexD (x 11 / 16) up, hexD (x 11 % 16) up,
      hexD (x 12 / 16) up, hexD (x 12 % 16) up, hexD (x 13 / 16) up, hexD (x 13 % 16) up, hexD (x 14 / 16) up, hexD (x 14 % 16) up, hexD (x 15 / 16) up, hexD (x 15 % 16) up] := by
    simp [fmtTo, cutB]
  intro i hi
  rw [e]
  clear e
  have h : i = 0 ∨ i = 1 ∨ i = 2 ∨ i = 3 ∨ i = 4 ∨ i = 5 ∨ i = 6 ∨ i = 7 ∨ i = 8 ∨ i = 9 ∨ i = 10 ∨ i = 11 ∨ i = 12 ∨ i = 13 ∨ i = 14 ∨ i = 15 ∨ i = 16 ∨ i = 17 ∨ i = 18 ∨ i = 19 ∨ i = 20 ∨ i = 21 ∨ i = 22 ∨ i = 23 ∨ i = 24 ∨ i = 25 ∨ i = 26 ∨ i = 27 ∨ i = 28 ∨ i = 29 ∨ i = 30 ∨ i = 31 ∨ i = 32 ∨ i = 33 ∨ i = 34 ∨ i = 35 := by omega
  rcases h with rfl | rfl | rfl | rfl | rfl | rfl | rfl | rfl | rfl | rfl | rfl | rfl | rfl | rfl | rfl | rfl | rfl | rfl | rfl | rfl | rfl | rfl | rfl | rfl | rfl | rfl | rfl | rfl | rfl | rfl | rfl | rfl | rfl | rfl | rfl | rfl
  all_goals simp [okAt, hypB, a, b]

theorem fmt_byte (x : Nat → Int) (up : Bool) (hx : ∀ i, i < 16 → 0 ≤ x i ∧ x i ≤ 255) (i : Nat) (hi : i < 36) : 0 ≤ (fmtTo x up 16).getD i 0 ∧ (fmtTo x up 16).getD i 0 ≤ 127 :=
  okAt_byte (fmt_ok x up hx i hi)

end Go.Proofs.Qxb6001145a
