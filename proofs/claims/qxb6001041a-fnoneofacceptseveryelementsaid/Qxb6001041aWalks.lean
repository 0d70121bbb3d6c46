import Derived.Test.Qxb6001041aRows
import Derived.WalkKit
import Derived.WalkSpells
import Derived.WalkLawsBesides
import Derived.Deep.OwnRows
import Derived.Lib.SliceRun
namespace Go.Proofs.Qxb6001041a
open Go.RowKit Go.Deep

/-- Is s one of the first n strings? -/
def hasB (f : Nat → ByteArray) (n : Nat) (s : ByteArray) : Bool := (List.range n).any fun i => decide (f i = s)

theorem hasB_true {f : Nat → ByteArray} {n : Nat} {s : ByteArray} {k : Nat} (hk : k < n) (h : f k = s) : hasB f n s = true := by
  unfold hasB
  rw [List.any_eq_true]
  exact ⟨k, List.mem_range.2 hk, by simp [h]⟩

theorem hasB_false {f : Nat → ByteArray} {n : Nat} {s : ByteArray} (h : ∀ i, i < n → f i ≠ s) : hasB f n s = false := by
  unfold hasB
  rw [List.any_eq_false]
  intro i hi
  simpa using h i (List.mem_range.1 hi)

theorem bytes_ext {a b : ByteArray} (h : a.toList = b.toList) : a = b := by
  rw [ByteArray.toList_eq, ByteArray.toList_eq] at h
  exact ByteArray.ext (Array.toList_inj.mp h)

theorem ret_bool {a b : Bool} (h : a = b) : Ending.returned (.bool a) = .returned (.bool b) := by rw [h]

set_option maxHeartbeats 400000 in
theorem oneOf_any (b off len cap : Nat) (f : Nat → ByteArray) (s : ByteArray) (w : World) (hl : len ≤ 1048576)
    (hc : ∀ i, i < len → w.cell? ⟨b, off + i, none⟩ = some (.string (f i))) :
    Calls Try.prog 12 #[.string s, .slice (some ⟨b, off, none⟩) len cap] w fun e w' => e = .returned (.bool (hasB f len s)) ∧ w' = w := by
  go_enter Try.func12, Try.ntmps12
  go_wp2
  go_loop [9] (fun i => ∃ k : Nat, k ≤ len ∧ i = .int .i64 k ∧ ∀ j, j < k → f j ≠ s) (fun i => len - (intOf i).toNat)
  case atStart => exact ⟨0, Nat.zero_le _, rfl, fun j h => by omega⟩
  case round =>
    obtain ⟨k, hk, rfl, hno⟩ := hrel
    have HN : Hid (∀ j, j < k → f j ≠ s) := hno
    clear hno
    by_cases hlt : k < len
    · have hck := hc k hlt
      go_wp2
      · have he : ((f k).toList == s.toList) = true := by assumption
        go_ret
        exact ⟨ret_bool (hasB_true hlt (bytes_ext (by simpa using he))).symm, rfl⟩
      · have he : ((f k).toList == s.toList) = false := by assumption
        go_round
        case rel =>
          refine ⟨k + 1, by omega, by go_num, fun j hj hjs => ?_⟩
          by_cases hjk : j = k
          · subst hjk; rw [hjs] at he; simp at he
          · exact HN.out j (by omega) hjs
        case measure => simp [intOf]; omega
    · go_wp2
      go_ret
      exact ⟨ret_bool (hasB_false (fun j hj => HN.out j (by omega))).symm, rfl⟩

set_option maxHeartbeats 400000 in
theorem oneOf_none (a : Option Addr) (cap : Nat) (s : ByteArray) (w : World) :
    Calls Try.prog 12 #[.string s, .slice a 0 cap] w fun e w' => e = .returned (.bool false) ∧ w' = w := by
  go_enter Try.func12, Try.ntmps12
  go_wp2
  refine wp_loop_rounds 1 ?_
  rw [rounds_succ]
  go_wp2
  go_ret
  exact ⟨rfl, rfl⟩

set_option maxHeartbeats 400000 in
theorem zzOneOf_any (b off len cap : Nat) (f : Nat → ByteArray) (s : ByteArray) (w : World) (hl : len ≤ 1048576)
    (hc : ∀ i, i < len → w.cell? ⟨b, off + i, none⟩ = some (.string (f i))) :
    Calls Try.prog 9 #[.string s, .slice (some ⟨b, off, none⟩) len cap] w fun e w' => e = .returned (.bool (hasB f len s)) ∧ w' = w := by
  go_enter Try.func9, Try.ntmps9
  go_wp2_with (go_at_call 12; refine (oneOf_any _ _ _ _ f _ _ hl hc).mono ?_; rintro e w' ⟨rfl, rfl⟩)
  go_ret
  exact ⟨rfl, rfl⟩

set_option maxHeartbeats 400000 in
theorem zzOneOf_none (a : Option Addr) (cap : Nat) (s : ByteArray) (w : World) :
    Calls Try.prog 9 #[.string s, .slice a 0 cap] w fun e w' => e = .returned (.bool false) ∧ w' = w := by
  go_enter Try.func9, Try.ntmps9
  go_wp2_with (go_at_call 12; refine (oneOf_none _ _ _ _).mono ?_; rintro e w' ⟨rfl, rfl⟩)
  go_ret
  exact ⟨rfl, rfl⟩

set_option maxHeartbeats 400000 in
theorem namesBytes_any (b off len cap : Nat) (f : Nat → ByteArray) (w : World) (hl : len ≤ 1024)
    (hc : ∀ i, i < len → w.cell? ⟨b, off + i, none⟩ = some (.string (f i))) :
    Calls Try.prog 7 #[.slice (some ⟨b, off, none⟩) len cap] w fun e w' => (∃ r : Int, 0 ≤ r ∧ r ≤ 1048577 ∧ e = .returned (.int .i64 r)) ∧ w' = w := by
  go_enter Try.func7, Try.ntmps7
  go_wp2
  go_loop [3, 4] (fun t i => ∃ k : Nat, ∃ r : Int, k ≤ len ∧ i = .int .i64 k ∧ t = .int .i64 r ∧ 0 ≤ r ∧ r ≤ 1048576) (fun _ i => len - (intOf i).toNat)
  case atStart => exact ⟨0, 0, Nat.zero_le _, rfl, rfl, by omega, by omega⟩
  case round =>
    obtain ⟨k, r, hk, rfl, rfl, hr0, hr1⟩ := hrel
    by_cases hlt : k < len
    · have hck := hc k hlt
      by_cases h1 : 1048576 < r + 16
      · go_wp2
        go_ret
        exact ⟨⟨_, by omega, by omega, rfl⟩, rfl⟩
      · by_cases h2 : (1048576 : Int) < (f k).size
        · go_wp2
          go_ret
          exact ⟨⟨_, by omega, by omega, rfl⟩, rfl⟩
        · by_cases h3 : (1048576 : Int) < r + 16 + (f k).size
          · go_wp2
            go_ret
            exact ⟨⟨_, by omega, by omega, rfl⟩, rfl⟩
          · go_wp2
            go_round
            case rel => exact ⟨k + 1, r + 16 + (f k).size, by omega, by go_num, rfl, by omega, by omega⟩
            case measure => simp [intOf]; omega
    · go_wp2
      go_ret
      exact ⟨⟨r, by omega, by omega, rfl⟩, rfl⟩

set_option maxHeartbeats 400000 in
theorem namesBytes_none (a : Option Addr) (cap : Nat) (w : World) :
    Calls Try.prog 7 #[.slice a 0 cap] w fun e w' => (∃ r : Int, 0 ≤ r ∧ r ≤ 1048577 ∧ e = .returned (.int .i64 r)) ∧ w' = w := by
  go_enter Try.func7, Try.ntmps7
  go_wp2
  refine wp_loop_rounds 1 ?_
  rw [rounds_succ]
  go_wp2
  go_ret
  exact ⟨⟨0, by omega, by omega, rfl⟩, rfl⟩

/-- It returns a bool, whichever. -/
def BoolEnd (e : Ending) : Prop := ∃ r : Bool, e = .returned (.bool r)

set_option maxHeartbeats 800000 in
theorem zzBytes_any (s : ByteArray) (b off len cap : Nat) (f : Nat → ByteArray) (w : World) (hs : s.size ≤ maxLen) (hl : len ≤ maxLen)
    (hc : ∀ i, i < len → w.cell? ⟨b, off + i, none⟩ = some (.string (f i))) :
    Calls Try.prog 10 #[.string s, .slice (some ⟨b, off, none⟩) len cap] w fun e w' => BoolEnd e ∧ w' = w := by
  unfold maxLen at hs hl
  by_cases h1 : (1048576 : Int) < s.size
  · go_enter Try.func10, Try.ntmps10
    go_wp2
    go_ret
    exact ⟨⟨_, rfl⟩, rfl⟩
  by_cases h2 : (1048576 : Int) < len
  · go_enter Try.func10, Try.ntmps10
    go_wp2
    go_ret
    exact ⟨⟨_, rfl⟩, rfl⟩
  by_cases h3 : (1048576 : Int) < s.size + len
  · go_enter Try.func10, Try.ntmps10
    go_wp2
    go_ret
    exact ⟨⟨_, rfl⟩, rfl⟩
  go_enter Try.func10, Try.ntmps10
  go_wp2
  go_loop [5, 6] (fun t i => ∃ k : Nat, ∃ r : Int, k ≤ len ∧ i = .int .i64 k ∧ t = .int .i64 r ∧ 0 ≤ r ∧ r ≤ 1048576) (fun _ i => len - (intOf i).toNat)
  case atStart => exact ⟨0, _, Nat.zero_le _, rfl, rfl, by omega, by omega⟩
  case round =>
    obtain ⟨k, r, hk, rfl, rfl, hr0, hr1⟩ := hrel
    by_cases hlt : k < len
    · have hck := hc k hlt
      by_cases h4 : (1048576 : Int) < (f k).size
      · go_wp2
        go_ret
        exact ⟨⟨_, rfl⟩, rfl⟩
      · by_cases h5 : (1048576 : Int) < r + (f k).size
        · go_wp2
          go_ret
          exact ⟨⟨_, rfl⟩, rfl⟩
        · go_wp2
          go_round
          case rel => exact ⟨k + 1, r + (f k).size, by omega, by go_num, rfl, by omega, by omega⟩
          case measure => simp [intOf]; omega
    · go_wp2
      go_ret
      exact ⟨⟨_, rfl⟩, rfl⟩

set_option maxHeartbeats 800000 in
theorem zzBytes_none (s : ByteArray) (a : Option Addr) (cap : Nat) (w : World) (hs : s.size ≤ maxLen) :
    Calls Try.prog 10 #[.string s, .slice a 0 cap] w fun e w' => BoolEnd e ∧ w' = w := by
  unfold maxLen at hs
  by_cases h1 : (1048576 : Int) < s.size
  · go_enter Try.func10, Try.ntmps10
    go_wp2
    go_ret
    exact ⟨⟨_, rfl⟩, rfl⟩
  go_enter Try.func10, Try.ntmps10
  go_wp2
  refine wp_loop_rounds 1 ?_
  rw [rounds_succ]
  go_wp2
  go_ret
  exact ⟨⟨_, rfl⟩, rfl⟩

theorem Try.info9 : (Try.prog.info? 9).map (fun i => (i.zero, i.size, i.bytes)) = some (some (.string ByteArray.empty), 1, 16) := by kernel_rfl

/-- The copy's own row when k of its strings are laid. -/
def upTo (f : Nat → ByteArray) (k : Nat) : Nat → Value := fun i => if i < k then .string (f i) else .string ByteArray.empty

theorem copyNames_nil (w : World) : Calls Try.prog 8 #[.slice none 0 0] w fun e w' => e = .returned (.slice none 0 0) ∧ w' = w := by
  have qT : ∀ (w : World) (a : Option Addr) (n c n' c' : Nat), (binOp .eql 22 (.slice a n c) (.slice none n' c')).run Try.prog w = .ok (.bool a.isNone) w := fun w a n c n' c' => Lib.run_eql_slice_nil w _ _ a n c n' c' Try.underlying22
  go_enter Try.func8, Try.ntmps8
  go_wp2
  go_ret
  exact ⟨rfl, rfl⟩

set_option maxHeartbeats 400000 in
theorem copyNames_empty (ad : Addr) (cap : Nat) (w : World) : Calls Try.prog 8 #[.slice (some ad) 0 cap] w fun e w' => e = .returned (.slice (some ⟨w.heap.size, 0, none⟩) 0 0) ∧ Below w.heap.size w w' := by
  have hmk : ∀ w, (Instr.makeSlice 22 (.int .i64 0) (.int .i64 0)).run Try.prog w = .ok (.slice (some ⟨w.heap.size, 0, none⟩) 0 0) (w.alloc (.cells #[] 9)) := fun _ => by kernel_rfl
  have qT : ∀ (w : World) (a : Option Addr) (n c n' c' : Nat), (binOp .eql 22 (.slice a n c) (.slice none n' c')).run Try.prog w = .ok (.bool a.isNone) w := fun w a n c n' c' => Lib.run_eql_slice_nil w _ _ a n c n' c' Try.underlying22
  go_enter Try.func8, Try.ntmps8
  go_wp2
  refine wp_loop_rounds 1 ?_
  rw [rounds_succ]
  go_wp2
  go_ret
  exact ⟨rfl, (Below.refl _ _).alloc (Nat.le_refl _) _⟩

set_option maxHeartbeats 400000 in
theorem copyNames_any (b off len cap : Nat) (f : Nat → ByteArray) (w : World) (hl : len ≤ 1024) (hb : b < w.heap.size)
    (hc : ∀ i, i < len → w.cell? ⟨b, off + i, none⟩ = some (.string (f i))) :
    Calls Try.prog 8 #[.slice (some ⟨b, off, none⟩) len cap] w fun e w' => e = .returned (.slice (some ⟨w.heap.size, 0, none⟩) len len) ∧ w'.rowIs w.heap.size 9 len (fun i => .string (f i)) ∧ Below w.heap.size w w' := by
  have hmk := run_make_row' (P := Try.prog) 22 9 (.string ByteArray.empty) 16 Try.underlying22 Try.info9 rfl .i64 .i64 len (by omega) (by omega)
  have qT : ∀ (w : World) (a : Option Addr) (n c n' c' : Nat), (binOp .eql 22 (.slice a n c) (.slice none n' c')).run Try.prog w = .ok (.bool a.isNone) w := fun w a n c n' c' => Lib.run_eql_slice_nil w _ _ a n c n' c' Try.underlying22
  go_enter Try.func8, Try.ntmps8
  go_wp2
  go_loopw [4] (fun i wr => ∃ k : Nat, k ≤ len ∧ i = .int .i64 k ∧ wr.rowIs w.heap.size 9 len (upTo f k) ∧ Below w.heap.size w wr) (fun i _ => len - (intOf i).toNat)
  case atStart => exact ⟨0, Nat.zero_le _, rfl, (World.rowIs_made _ _ _ _).congr (fun i _ => by simp [upTo]), (Below.refl _ _).alloc (Nat.le_refl _) _⟩
  case round =>
    obtain ⟨k, hk, rfl, hrow, hbel⟩ := hrel
    by_cases hlt : k < len
    · have hck : wr.cell? ⟨b, off + k, none⟩ = some (.string (f k)) := (hbel.cell hb).trans (hc k hlt)
      have hcd := hrow.cell hlt
      have hfr := hrow.frozen k
      have R := hrow.set k (.string (f k))
      have RB := hbel.setCell (p := ⟨w.heap.size, k, none⟩) (Nat.le_refl _) (.string (f k))
      clear hrow hbel
      go_wp2
      go_roundw
      case rel => exact ⟨k + 1, by omega, by go_num, R.congr (fun i _ => by unfold upTo; by_cases h : i = k <;> simp [h]; by_cases h2 : i < k <;> simp [h2] <;> omega), RB⟩
      case measure => simp [intOf]; omega
    · go_wp2
      go_ret
      exact ⟨rfl, hrow.congr (fun i hi => by simp [upTo]; omega), hbel⟩

end Go.Proofs.Qxb6001041a
