import Derived.Test.Qxb6001274aRows
import Derived.WalkKit
import Derived.WalkSpells
import Derived.WalkLawsBesides
import Derived.Lib.Strings
namespace Go.Proofs.Qxb6001274a
open Go.RowKit

/-- What stands ahead of letter i of n. -/
def sep (n i : Nat) : List UInt8 := if i = 0 then [] else if i = n - 1 then [32, 111, 114, 32] else [44, 32]
/-- The sentence over the first k of the letters l. -/
def lettersTo (l : List UInt8) : Nat → List UInt8
  | 0 => []
  | k + 1 => lettersTo l k ++ sep l.length k ++ [l.getD k 0]
def letters (l : List UInt8) : List UInt8 := lettersTo l l.length

theorem sep_le (n i : Nat) : (sep n i).length ≤ 4 := by
  unfold sep
  repeat' split
  all_goals simp

theorem lettersTo_le (l : List UInt8) (k : Nat) : (lettersTo l k).length ≤ 5 * k := by
  induction k with
  | zero => simp [lettersTo]
  | succ k ih =>
    have := sep_le l.length k
    simp only [lettersTo, List.length_append, List.length_cons, List.length_nil]
    omega

theorem data_len (s : ByteArray) : s.data.toList.length = s.size := by rw [Array.length_toList]; rfl

theorem data_app (a b : ByteArray) : (a ++ b).data.toList = a.data.toList ++ b.data.toList := by
  rw [ByteArray.data_append, Array.toList_append]

theorem one_letter (s : ByteArray) (k : Nat) (h : k < s.size) : (s.extract k (k + 1)).data.toList = [s.data.toList.getD k 0] := by
  rw [Lib.extract_data]
  have hk : k < s.data.toList.length := by rw [data_len]; exact h
  rw [show k + 1 - k = 1 by omega, List.getD, List.getElem?_eq_getElem hk, List.drop_eq_getElem_cons hk]
  rfl

theorem step_first (s r : ByteArray) (h : 0 < s.size) (hr : r.data.toList = lettersTo s.data.toList 0) : (r ++ s.extract 0 1).data.toList = lettersTo s.data.toList 1 := by
  rw [data_app, hr, one_letter s 0 h]
  simp [lettersTo, sep]

theorem step_next (s r q : ByteArray) (k : Nat) (h : k < s.size) (hq : q.data.toList = sep s.size k) (hr : r.data.toList = lettersTo s.data.toList k) : (r ++ q ++ s.extract k (k + 1)).data.toList = lettersTo s.data.toList (k + 1) := by
  rw [data_app, data_app, hr, hq, one_letter s k h]
  simp only [lettersTo, data_len]

theorem size_le (s r : ByteArray) (k : Nat) (hr : r.data.toList = lettersTo s.data.toList k) : r.size ≤ 5 * k := by
  rw [← data_len, hr]
  exact lettersTo_le _ _

set_option maxHeartbeats 400000 in
theorem letters_any (s : ByteArray) (w : World) (hs : s.size ≤ 4096) :
    Calls Try.prog 9 #[.string s] w fun e w' => (∃ r : ByteArray, e = .returned (.string r) ∧ r.data.toList = letters s.data.toList) ∧ w' = w := by
  go_enter Try.func9, Try.ntmps9
  go_wp2
  go_loop [3, 7] (fun v i => ∃ (k : Nat) (r : ByteArray), k ≤ s.size ∧ i = .int .i64 k ∧ v = .string r ∧ Hid (r.data.toList = lettersTo s.data.toList k)) (fun _ i => s.size - (intOf i).toNat)
  case atStart => exact ⟨0, _, by omega, rfl, rfl, rfl⟩
  case round =>
    obtain ⟨k, r, hk, rfl, rfl, HR⟩ := hrel
    have hr := size_le s r k HR.out
    by_cases hlt : k < s.size
    · by_cases h0 : k = 0
      · subst h0
        have H2 : Hid ((r ++ s.extract 0 1).data.toList = lettersTo s.data.toList 1) := step_first s r hlt HR.out
        clear HR
        go_wp2
        go_round
        case rel => exact ⟨1, _, by omega, rfl, rfl, H2⟩
        case measure => simp [intOf]; omega
      · have b0 : ((k : Int) == 0) = false := by simpa using h0
        by_cases h1 : k = s.size - 1
        · have b1 : ((k : Int) == (s.size : Int) - 1) = true := by simp; omega
          have H2 : Hid ((r ++ ⟨#[32, 111, 114, 32]⟩ ++ s.extract k (k + 1)).data.toList = lettersTo s.data.toList (k + 1)) := step_next s r _ k hlt (by unfold sep; rw [if_neg h0, if_pos h1]) HR.out
          clear HR h1 h0
          go_wp2
          go_round
          case rel => exact ⟨k + 1, _, by omega, by go_num, rfl, H2⟩
          case measure => simp [intOf]; omega
        · have b1 : ((k : Int) == (s.size : Int) - 1) = false := by simp; omega
          have H2 : Hid ((r ++ ⟨#[44, 32]⟩ ++ s.extract k (k + 1)).data.toList = lettersTo s.data.toList (k + 1)) := step_next s r _ k hlt (by unfold sep; rw [if_neg h0, if_neg h1]) HR.out
          clear HR h1 h0
          go_wp2
          go_round
          case rel => exact ⟨k + 1, _, by omega, by go_num, rfl, H2⟩
          case measure => simp [intOf]; omega
    · obtain rfl : k = s.size := by omega
      go_wp2
      go_ret
      exact ⟨⟨r, rfl, by rw [HR.out, letters, data_len]⟩, rfl⟩

set_option maxHeartbeats 400000 in
theorem zzletters_any (s : ByteArray) (w : World) (hs : s.size ≤ 4096) :
    Calls Try.prog 6 #[.string s] w fun e w' => (∃ r : ByteArray, e = .returned (.string r) ∧ r.data.toList = letters s.data.toList) ∧ w' = w := by
  go_enter Try.func6, Try.ntmps6
  go_wp2_with fail
  refine (letters_any s w hs).mono ?_
  rintro e w' ⟨⟨r, rfl, hr⟩, rfl⟩
  have HR : Hid (r.data.toList = letters s.data.toList) := hr
  clear hr
  go_wp2
  go_ret
  exact ⟨⟨r, rfl, HR.out⟩, rfl⟩

/-- It returns a bool, whichever. -/
def BoolEnd (e : Ending) : Prop := ∃ r : Bool, e = .returned (.bool r)

set_option maxHeartbeats 400000 in
theorem zzBytes1_any (s : ByteArray) (w : World) (hs : s.size ≤ maxLen) : Calls Try.prog 5 #[.string s] w fun e w' => BoolEnd e ∧ w' = w := by
  unfold maxLen at hs
  by_cases h1 : (1048576 : Int) < s.size
  all_goals
    go_enter Try.func5, Try.ntmps5
    go_wp2
    go_ret
    exact ⟨⟨_, rfl⟩, rfl⟩

set_option maxHeartbeats 400000 in
theorem zzBytes2_any (s t : ByteArray) (w : World) (hs : s.size ≤ maxLen) (ht : t.size ≤ maxLen) : Calls Try.prog 8 #[.string s, .string t] w fun e w' => BoolEnd e ∧ w' = w := by
  unfold maxLen at hs ht
  by_cases h1 : (1048576 : Int) < s.size
  · go_enter Try.func8, Try.ntmps8
    go_wp2
    go_ret
    exact ⟨⟨_, rfl⟩, rfl⟩
  by_cases h2 : (1048576 : Int) < t.size
  · go_enter Try.func8, Try.ntmps8
    go_wp2
    go_ret
    exact ⟨⟨_, rfl⟩, rfl⟩
  by_cases h3 : (1048576 : Int) < s.size + t.size
  all_goals
    go_enter Try.func8, Try.ntmps8
    go_wp2
    go_ret
    exact ⟨⟨_, rfl⟩, rfl⟩

end Go.Proofs.Qxb6001274a
