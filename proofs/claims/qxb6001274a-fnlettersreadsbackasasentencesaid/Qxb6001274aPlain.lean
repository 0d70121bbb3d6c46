/-
  THE PLAIN LAW: the letters can be read back out of the sentence by position.
-/
import Derived.Test.Qxb6001274aWalks
namespace Go.Proofs.Qxb6001274a

theorem at_letter (l : List UInt8) (k : Nat) (h1 : 1 ≤ k) (hn : k < l.length) : (lettersTo l k).length = 3 * k - 2 ∧
    ∀ j, j < k → (lettersTo l k)[3 * j]? = some (l.getD j 0) ∧ (j + 1 < k → (lettersTo l k)[3 * j + 1]? = some 44 ∧ (lettersTo l k)[3 * j + 2]? = some 32) := by
  induction k with
  | zero => omega
  | succ k ih =>
    by_cases h0 : k = 0
    · subst h0
      refine ⟨by simp [lettersTo, sep], fun j hj => ?_⟩
      obtain rfl : j = 0 := by omega
      exact ⟨by simp [lettersTo, sep], fun h => by omega⟩
    · obtain ⟨hl, hj⟩ := ih (by omega) (by omega)
      have es : sep l.length k = [44, 32] := by unfold sep; rw [if_neg h0, if_neg (by omega)]
      have e : lettersTo l (k + 1) = lettersTo l k ++ ([44, 32] ++ [l.getD k 0]) := by simp only [lettersTo, es, List.append_assoc]
      refine ⟨by rw [e]; simp [hl]; omega, fun j hjk => ?_⟩
      rw [e]
      by_cases hlast : j = k
      · subst hlast
        refine ⟨?_, fun h => by omega⟩
        rw [List.getElem?_append_right (by rw [hl]; omega), hl, show 3 * j - (3 * j - 2) = 2 by omega]
        rfl
      · obtain ⟨g1, g2⟩ := hj j (by omega)
        refine ⟨by rw [List.getElem?_append_left (by rw [hl]; omega)]; exact g1, fun _ => ?_⟩
        by_cases hpen : j + 1 = k
        · subst hpen
          constructor
          · rw [List.getElem?_append_right (by rw [hl]; omega), hl, show 3 * j + 1 - (3 * (j + 1) - 2) = 0 by omega]
            rfl
          · rw [List.getElem?_append_right (by rw [hl]; omega), hl, show 3 * j + 2 - (3 * (j + 1) - 2) = 1 by omega]
            rfl
        · obtain ⟨g3, g4⟩ := g2 (by omega)
          rw [List.getElem?_append_left (by rw [hl]; omega), List.getElem?_append_left (by rw [hl]; omega)]
          exact ⟨g3, g4⟩

/-- The sentence of two letters or more. -/
theorem letters_eq (l : List UInt8) (h : 2 ≤ l.length) : letters l = lettersTo l (l.length - 1) ++ ([32, 111, 114, 32] ++ [l.getD (l.length - 1) 0]) := by
  have e : l.length = l.length - 1 + 1 := by omega
  unfold letters
  rw [e]
  simp only [lettersTo]
  have es : sep l.length (l.length - 1) = [32, 111, 114, 32] := by unfold sep; rw [if_neg (by omega), if_pos rfl]
  rw [es, show l.length - 1 + 1 - 1 = l.length - 1 by omega, List.append_assoc]

theorem letters_len (l : List UInt8) (h : 2 ≤ l.length) : (letters l).length = 3 * l.length := by
  rw [letters_eq l h]
  simp [(at_letter l (l.length - 1) (by omega) (by omega)).1]
  omega

theorem letters_short (l : List UInt8) (h : l.length < 2) : letters l = l := by
  match l, h with
  | [], _ => rfl
  | [a], _ => simp [letters, lettersTo, sep]
  | _ :: _ :: _, h => simp at h; omega

theorem letters_at (l : List UInt8) (j : Nat) (h : j + 1 < l.length) : (letters l)[3 * j]? = some (l.getD j 0) := by
  obtain ⟨hl, hj⟩ := at_letter l (l.length - 1) (by omega) (by omega)
  rw [letters_eq l (by omega), List.getElem?_append_left (by rw [hl]; omega)]
  exact (hj j (by omega)).1

theorem letters_sep (l : List UInt8) (j : Nat) (h : j + 2 < l.length) : (letters l)[3 * j + 1]? = some 44 ∧ (letters l)[3 * j + 2]? = some 32 := by
  obtain ⟨hl, hj⟩ := at_letter l (l.length - 1) (by omega) (by omega)
  rw [letters_eq l (by omega), List.getElem?_append_left (by rw [hl]; omega), List.getElem?_append_left (by rw [hl]; omega)]
  exact (hj j (by omega)).2 (by omega)

theorem letters_last (l : List UInt8) (h : 2 ≤ l.length) : (letters l)[3 * l.length - 1]? = some (l.getD (l.length - 1) 0) := by
  obtain ⟨hl, _⟩ := at_letter l (l.length - 1) (by omega) (by omega)
  rw [letters_eq l h, List.getElem?_append_right (by rw [hl]; omega), hl, show 3 * l.length - 1 - (3 * (l.length - 1) - 2) = 4 by omega]
  rfl

theorem letters_or (l : List UInt8) (h : 2 ≤ l.length) : ((letters l).drop (3 * l.length - 5)).take 4 = [32, 111, 114, 32] := by
  obtain ⟨hl, _⟩ := at_letter l (l.length - 1) (by omega) (by omega)
  rw [letters_eq l h, List.drop_append_of_le_length (by rw [hl]; omega), List.drop_of_length_le (by rw [hl]; omega)]
  rfl

/-- The letters read back by position. -/
def unlet (o : List UInt8) (n : Nat) : List UInt8 := (List.range n).map fun j => if j + 1 < n then o.getD (3 * j) 0 else o.getD (3 * n - 1) 0

theorem unlet_letters (l : List UInt8) (h : 2 ≤ l.length) : unlet (letters l) l.length = l := by
  apply List.ext_getElem?
  intro j
  unfold unlet
  by_cases hj : j < l.length
  · rw [List.getElem?_map, List.getElem?_range hj, Option.map_some]
    by_cases hj1 : j + 1 < l.length
    · rw [if_pos hj1, List.getD, letters_at l j hj1]
      simp [List.getD, hj]
    · obtain rfl : j = l.length - 1 := by omega
      rw [if_neg hj1, List.getD, letters_last l h]
      simp [List.getD, hj]
  · rw [List.getElem?_eq_none (by simp; omega), List.getElem?_eq_none (by omega)]

theorem letters_inj (a b : List UInt8) (h : letters a = letters b) : a = b := by
  have hlen := congrArg List.length h
  by_cases ha : a.length < 2
  · by_cases hb : b.length < 2
    · rw [letters_short a ha, letters_short b hb] at h
      exact h
    · rw [letters_short a ha, letters_len b (by omega)] at hlen
      omega
  · by_cases hb : b.length < 2
    · rw [letters_short b hb, letters_len a (by omega)] at hlen
      omega
    · rw [letters_len a (by omega), letters_len b (by omega)] at hlen
      have e : a.length = b.length := by omega
      rw [← unlet_letters a (by omega), ← unlet_letters b (by omega), h, e]

end Go.Proofs.Qxb6001274a
