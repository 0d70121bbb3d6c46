import Derived.Test.Qxb6001145aRows
import Derived.Test.Qxb6001145aPlain
import Derived.WalkKit
import Derived.WalkSpells
import Derived.WalkLawsBesides
import Derived.Deep.OwnRows
namespace Go.Proofs.Qxb6001145a
open Go.RowKit Go.Deep

theorem ret_bool {a b : Bool} (h : a = b) : Ending.returned (.bool a) = .returned (.bool b) := by rw [h]
theorem ret_int {k : IntKind} {a b : Int} (h : a = b) : Ending.returned (.int k a) = .returned (.int k b) := by rw [h]

set_option maxHeartbeats 400000 in
theorem isHexByte_any (c : Int) (w : World) :
    Calls Try.prog 12 #[.int .u8 c] w fun e w' => e = .returned (.bool (hexB c)) ∧ w' = w := by
  by_cases h1 : 48 ≤ c
  all_goals by_cases h2 : c ≤ 57
  all_goals by_cases h3 : 97 ≤ c
  all_goals by_cases h4 : c ≤ 102
  all_goals by_cases h5 : 65 ≤ c
  all_goals by_cases h6 : c ≤ 70
  all_goals first
    | omega
    | (go_enter Try.func12, Try.ntmps12
       go_wp2
       go_ret
       exact ⟨ret_bool (by simp [hexB, h1, h2, h3, h4, h5, h6] <;> omega), rfl⟩)

set_option maxHeartbeats 400000 in
theorem isHyphenPos_any (k : Int) (w : World) :
    Calls Try.prog 13 #[.int .i64 k] w fun e w' => e = .returned (.bool (hypB k)) ∧ w' = w := by
  by_cases h1 : k = 8
  · subst h1
    go_enter Try.func13, Try.ntmps13
    go_wp2
    go_ret
    exact ⟨rfl, rfl⟩
  by_cases h2 : k = 13
  · subst h2
    go_enter Try.func13, Try.ntmps13
    go_wp2
    go_ret
    exact ⟨rfl, rfl⟩
  by_cases h3 : k = 18
  · subst h3
    go_enter Try.func13, Try.ntmps13
    go_wp2
    go_ret
    exact ⟨rfl, rfl⟩
  by_cases h4 : k = 23
  · subst h4
    go_enter Try.func13, Try.ntmps13
    go_wp2
    go_ret
    exact ⟨rfl, rfl⟩
  have b1 : (k == 8) = false := by simpa using h1
  have b2 : (k == 13) = false := by simpa using h2
  have b3 : (k == 18) = false := by simpa using h3
  have b4 : (k == 23) = false := by simpa using h4
  have hh : hypB k = false := by simp [hypB, h1, h2, h3, h4]
  have H := show Hid (hypB k = false) from hh
  clear hh h1 h2 h3 h4
  go_enter Try.func13, Try.ntmps13
  go_wp2
  go_ret
  exact ⟨ret_bool H.out.symm, rfl⟩

theorem hexD_lo {v : Int} (up : Bool) (h : v < 10) : 48 + v = hexD v up := by simp [hexD, h]
theorem hexD_up {v x : Int} (h : 10 ≤ v) (hx : x = 55 + v) : x = hexD v true := by rw [hx, hexD, if_neg (by omega), if_pos rfl]
theorem hexD_dn {v x : Int} (h : 10 ≤ v) (hx : x = 87 + v) : x = hexD v false := by rw [hx, hexD, if_neg (by omega)]; rfl

set_option maxHeartbeats 400000 in
theorem hexDigit_any (v : Int) (up : Bool) (w : World) (h0 : 0 ≤ v) (h1 : v < 16) :
    Calls Try.prog 16 #[.int .u8 v, .bool up] w fun e w' => e = .returned (.int .u8 (hexD v up)) ∧ w' = w := by
  by_cases h : v < 10
  · go_enter Try.func16, Try.ntmps16
    go_wp2
    go_ret
    exact ⟨ret_int (hexD_lo up h), rfl⟩
  · cases up
    · go_enter Try.func16, Try.ntmps16
      go_wp2
      go_ret
      exact ⟨ret_int (hexD_dn (by omega) (by omega)), rfl⟩
    · go_enter Try.func16, Try.ntmps16
      go_wp2
      go_ret
      exact ⟨ret_int (hexD_up (by omega) (by omega)), rfl⟩

/-! ### isUUID: a range over a string -/

theorem dec_ok (s : ByteArray) (pos : Nat) (h : pos < s.size) (hok : okAt pos ((s[pos]'h).toNat : Int) = true) : Utf8.decode s pos = ((s[pos]'h).toNat, 1) :=
  decode_ascii s pos h (by have := okAt_byte hok; omega)

theorem dec_bad (s : ByteArray) (pos : Nat) (h : pos < s.size) (hbad : okAt pos ((s[pos]'h).toNat : Int) = false) : okAt pos ((Utf8.decode s pos).1 : Int) = false := by
  by_cases ha : (s[pos]'h).toNat < 128
  · rw [decode_ascii s pos h ha]; exact hbad
  · exact okAt_high _ _ (by have := (decode_high s pos h (by omega)).1; omega)

/-- What the round at place pos meets: a rune that may stand there, one byte wide. -/
theorem next_ok (s : ByteArray) (w : World) (pos : Nat) (h : pos < s.size) (hok : okAt pos ((s[pos]'h).toNat : Int) = true) :
    ∃ r : Int, okAt pos r = true ∧ ∀ ty, (Instr.next (.pointer (some ⟨w.heap.size, 0, none⟩)) true ty).run Try.prog (w.iter s pos) = .ok (.tuple #[.bool true, .int .i64 pos, .int .i32 r]) (w.iter s (pos + 1)) := by
  refine ⟨_, hok, fun ty => ?_⟩
  have := run_next_any (P := Try.prog) w s pos ty h
  rw [dec_ok s pos h hok] at this
  exact this

/-- .. a rune that may not. -/
theorem next_bad (s : ByteArray) (w : World) (pos : Nat) (h : pos < s.size) (hbad : okAt pos ((s[pos]'h).toNat : Int) = false) :
    ∃ (r : Int) (q : Nat), okAt pos r = false ∧ ∀ ty, (Instr.next (.pointer (some ⟨w.heap.size, 0, none⟩)) true ty).run Try.prog (w.iter s pos) = .ok (.tuple #[.bool true, .int .i64 pos, .int .i32 r]) (w.iter s q) :=
  ⟨_, _, dec_bad s pos h hbad, fun ty => run_next_any (P := Try.prog) w s pos ty h⟩

theorem okAt_cases {i : Nat} {c : Int} (h : okAt i c = true) : ((i = 8 ∨ i = 13 ∨ i = 18 ∨ i = 23) ∧ c = 45) ∨ (¬ (i = 8 ∨ i = 13 ∨ i = 18 ∨ i = 23) ∧ (48 ≤ c ∧ c ≤ 57 ∨ 97 ≤ c ∧ c ≤ 102 ∨ 65 ≤ c ∧ c ≤ 70)) := by
  unfold okAt hypB hexB at h
  by_cases hi : i = 8 ∨ i = 13 ∨ i = 18 ∨ i = 23
  · have hj : (i : Int) = 8 ∨ (i : Int) = 13 ∨ (i : Int) = 18 ∨ (i : Int) = 23 := by omega
    simp [hj] at h; exact .inl ⟨hi, h⟩
  · have hj : ¬ ((i : Int) = 8 ∨ (i : Int) = 13 ∨ (i : Int) = 18 ∨ (i : Int) = 23) := by omega
    simp [hj] at h; exact .inr ⟨hi, by omega⟩

theorem okAt_cases' {i : Nat} {c : Int} (h : okAt i c = false) : ((i = 8 ∨ i = 13 ∨ i = 18 ∨ i = 23) ∧ c ≠ 45) ∨ (¬ (i = 8 ∨ i = 13 ∨ i = 18 ∨ i = 23) ∧ (c < 48 ∨ 57 < c ∧ c < 65 ∨ 70 < c ∧ c < 97 ∨ 102 < c)) := by
  unfold okAt hypB hexB at h
  by_cases hi : i = 8 ∨ i = 13 ∨ i = 18 ∨ i = 23
  · have hj : (i : Int) = 8 ∨ (i : Int) = 13 ∨ (i : Int) = 18 ∨ (i : Int) = 23 := by omega
    simp [hj] at h; exact .inl ⟨hi, h⟩
  · have hj : ¬ ((i : Int) = 8 ∨ (i : Int) = 13 ∨ (i : Int) = 18 ∨ (i : Int) = 23) := by omega
    simp [hj] at h; exact .inr ⟨hi, by omega⟩

set_option maxHeartbeats 1000000 in
theorem isUUID_good (s : ByteArray) (w : World) (hs : s.size = 36) (hok : ∀ (i : Nat) (h : i < s.size), okAt i ((s[i]'h).toNat : Int) = true) :
    Calls Try.prog 14 #[.string s] w fun e w' => e = .returned (.bool true) ∧ ∃ q, w' = w.iter s q := by
  have hn36 : ((s.size : Int) != 36) = false := by simp [hs]
  have HS : Hid (s.size = 36) := hs
  have HOK : Hid (∀ (i : Nat) (h : i < s.size), okAt i ((s[i]'h).toNat : Int) = true) := hok
  clear hs hok
  go_enter Try.func14, Try.ntmps14
  go_wp2
  go_loopw [3] (fun _ wr => ∃ pos : Nat, pos ≤ 36 ∧ wr = w.iter s pos) (fun _ wr => 36 - wr.iterPos w.heap.size)
  case atStart => exact ⟨0, by omega, rfl⟩
  case round =>
    obtain ⟨pos, hp, rfl⟩ := hrel
    by_cases hlt : pos < 36
    · obtain ⟨r, hr, hnx⟩ := next_ok s w pos (by rw [HS.out]; exact hlt) (HOK.out _ _)
      rcases okAt_cases hr with ⟨hi, rfl⟩ | ⟨hi, hc⟩
      · clear hr
        rcases hi with rfl | rfl | rfl | rfl
        all_goals
          go_wp2
          go_roundw
          case rel => exact ⟨_, by omega, rfl⟩
          case measure => simp
      · clear hr
        have b1 : ((pos : Int) == 8) = false := by simp; omega
        have b2 : ((pos : Int) == 13) = false := by simp; omega
        have b3 : ((pos : Int) == 18) = false := by simp; omega
        have b4 : ((pos : Int) == 23) = false := by simp; omega
        clear hi
        rcases hc with ⟨c1, c2⟩ | ⟨c1, c2⟩ | ⟨c1, c2⟩
        all_goals
          go_wp2
          go_roundw
          case rel => exact ⟨pos + 1, by omega, rfl⟩
          case measure => simp; omega
    · have hnx : ∀ ty, (Instr.next (.pointer (some ⟨w.heap.size, 0, none⟩)) true ty).run Try.prog (w.iter s pos) = _ := fun ty => run_next_end w s pos ty (by rw [HS.out]; exact hlt)
      go_wp2
      go_ret
      exact ⟨rfl, _, rfl⟩

set_option maxHeartbeats 1000000 in
theorem isUUID_bad (s : ByteArray) (k : Nat) (w : World) (hs : s.size = 36) (hk : k < 36) (hok : ∀ (i : Nat) (h : i < s.size), i < k → okAt i ((s[i]'h).toNat : Int) = true)
    (hbad : ∀ h : k < s.size, okAt k ((s[k]'h).toNat : Int) = false) :
    Calls Try.prog 14 #[.string s] w fun e w' => e = .returned (.bool false) ∧ ∃ q, w' = w.iter s q := by
  have hn36 : ((s.size : Int) != 36) = false := by simp [hs]
  have HS : Hid (s.size = 36) := hs
  have HOK : Hid (∀ (i : Nat) (h : i < s.size), i < k → okAt i ((s[i]'h).toNat : Int) = true) := hok
  have HB : Hid (∀ h : k < s.size, okAt k ((s[k]'h).toNat : Int) = false) := hbad
  clear hs hok hbad
  go_enter Try.func14, Try.ntmps14
  go_wp2
  go_loopw [3] (fun _ wr => ∃ pos : Nat, pos ≤ k ∧ wr = w.iter s pos) (fun _ wr => 36 - wr.iterPos w.heap.size)
  case atStart => exact ⟨0, by omega, rfl⟩
  case round =>
    obtain ⟨pos, hp, rfl⟩ := hrel
    by_cases hlt : pos < k
    · obtain ⟨r, hr, hnx⟩ := next_ok s w pos (by rw [HS.out]; omega) (HOK.out _ _ hlt)
      rcases okAt_cases hr with ⟨hi, rfl⟩ | ⟨hi, hc⟩
      · clear hr
        rcases hi with rfl | rfl | rfl | rfl
        all_goals
          go_wp2
          go_roundw
          case rel => exact ⟨_, by omega, rfl⟩
          case measure => simp
      · clear hr
        have b1 : ((pos : Int) == 8) = false := by simp; omega
        have b2 : ((pos : Int) == 13) = false := by simp; omega
        have b3 : ((pos : Int) == 18) = false := by simp; omega
        have b4 : ((pos : Int) == 23) = false := by simp; omega
        clear hi
        rcases hc with ⟨c1, c2⟩ | ⟨c1, c2⟩ | ⟨c1, c2⟩
        all_goals
          go_wp2
          go_roundw
          case rel => exact ⟨pos + 1, by omega, rfl⟩
          case measure => simp; omega
    · obtain ⟨r, q, hr, hnx⟩ := next_bad s w pos (by rw [HS.out]; omega) (by obtain rfl : pos = k := by omega
                                                                             exact HB.out _)
      rcases okAt_cases' hr with ⟨hi, hc⟩ | ⟨hi, hc⟩
      · clear hr
        have bc : (r != 45) = true := by simpa using hc
        clear hc
        rcases hi with rfl | rfl | rfl | rfl
        all_goals
          go_wp2
          go_ret
          exact ⟨rfl, _, rfl⟩
      · clear hr
        have b1 : ((pos : Int) == 8) = false := by simp; omega
        have b2 : ((pos : Int) == 13) = false := by simp; omega
        have b3 : ((pos : Int) == 18) = false := by simp; omega
        have b4 : ((pos : Int) == 23) = false := by simp; omega
        clear hi
        rcases hc with c1 | ⟨c1, c2⟩ | ⟨c1, c2⟩ | c1
        all_goals
          go_wp2
          go_ret
          exact ⟨rfl, _, rfl⟩

end Go.Proofs.Qxb6001145a
