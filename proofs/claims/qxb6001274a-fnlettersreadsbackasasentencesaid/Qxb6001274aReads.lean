import Derived.Test.Qxb6001274aUnletter
namespace Go.Proofs.Qxb6001274a
open Go.RowKit Go.Deep

theorem ret_bool {a b : Bool} (h : a = b) : Ending.returned (.bool a) = .returned (.bool b) := by rw [h]

theorem bytes_ext {a b : ByteArray} (h : a.data.toList = b.data.toList) : a = b := ByteArray.ext (Array.toList_inj.mp h)

set_option maxHeartbeats 1000000 in
theorem reads_short (s : ByteArray) (w : World) (hs : s.size < 2) : Calls Try.prog 3 #[.string s] w fun e w' => e = .returned (.bool true) ∧ Below w.heap.size w w' := by
  have HZ : Hid (Calls Try.prog 5 #[.string s] w fun e w' => BoolEnd e ∧ w' = w) := zzBytes1_any s w (by unfold maxLen; omega)
  go_enter Try.func3, Try.ntmps3
  go_wp2_with fail
  refine HZ.out.mono ?_
  rintro e w' ⟨⟨r, rfl⟩, rfl⟩
  cases r
  · go_wp2
    go_ret
    exact ⟨rfl, Below.refl _ _⟩
  clear HZ
  go_wp2_with fail
  refine (zzletters_any s _ (by omega)).mono ?_
  rintro e w' ⟨⟨r, rfl, hr⟩, rfl⟩
  obtain rfl : r = s := bytes_ext (by rw [hr, letters_short _ (by rw [data_len]; exact hs)])
  clear hr
  go_wp2
  go_ret
  exact ⟨ret_bool (by simp), Below.refl _ _⟩

set_option maxHeartbeats 1000000 in
theorem reads_long (s : ByteArray) (w : World) (h2 : 2 ≤ s.size) (hs : s.size ≤ maxLen) : Calls Try.prog 3 #[.string s] w fun e w' => e = .returned (.bool true) ∧ Below w.heap.size w w' := by
  have HZ : Hid (Calls Try.prog 5 #[.string s] w fun e w' => BoolEnd e ∧ w' = w) := zzBytes1_any s w hs
  unfold maxLen at hs
  by_cases h0 : (4096 : Int) < s.size
  · go_enter Try.func3, Try.ntmps3
    go_wp2_with fail
    refine HZ.out.mono ?_
    rintro e w' ⟨⟨r, rfl⟩, rfl⟩
    cases r
    all_goals
      go_wp2
      go_ret
      exact ⟨rfl, Below.refl _ _⟩
  go_enter Try.func3, Try.ntmps3
  go_wp2_with fail
  refine HZ.out.mono ?_
  rintro e w' ⟨⟨r, rfl⟩, rfl⟩
  cases r
  · go_wp2
    go_ret
    exact ⟨rfl, Below.refl _ _⟩
  clear HZ
  go_wp2_with fail
  refine (zzletters_any s _ (by omega)).mono ?_
  rintro e w' ⟨⟨r, rfl, hr⟩, rfl⟩
  have HR : Hid (r.data.toList = letters s.data.toList) := hr
  have hl2 : 2 ≤ s.data.toList.length := by rw [data_len]; exact h2
  have hrs : r.size = 3 * s.size := by rw [← data_len, hr, letters_len _ hl2, data_len]
  have HRS : Hid (r.size = 3 * s.size) := hrs
  have b1 : ((r.size : Int) != 3 * (s.size : Int)) = false := by simp [hrs]
  have hr1 : r.size ≤ 3 * s.size := by omega
  have hr2 : 3 * s.size ≤ r.size := by omega
  clear hr hrs
  go_wp2_with fail
  refine (unletter_any r s.size _ h2 (by omega) HRS.out).mono ?_
  rintro e w2 ⟨⟨q, rfl, hq⟩, hb⟩
  obtain rfl : q = s := bytes_ext (by rw [hq, HR.out, ← data_len s, unlet_letters _ hl2])
  have HB : Hid (Below w'.heap.size w' w2) := hb
  clear hq hb
  go_wp2_with fail
  go_loop [5] (fun i => ∃ k : Nat, k + 2 ≤ q.size ∧ i = .int .i64 k) (fun i => q.size - (intOf i).toNat)
  case atStart => exact ⟨0, by omega, rfl⟩
  case round =>
    obtain ⟨k, hk, rfl⟩ := hrel
    by_cases hlt : k + 2 < q.size
    · have hx1 : 3 * k + 1 < r.size := by omega
      have hx2 : 3 * k + 2 < r.size := by omega
      have hsep := letters_sep q.data.toList k (by rw [data_len]; exact hlt)
      have e1 : (((r[3 * k + 1]'hx1).toNat : Int) != 44) = false := by rw [byte_at, HR.out, List.getD, hsep.1]; rfl
      have e2 : (((r[3 * k + 2]'hx2).toNat : Int) != 32) = false := by rw [byte_at, HR.out, List.getD, hsep.2]; rfl
      clear hsep
      go_wp2
      go_round
      case rel => exact ⟨k + 1, by omega, by go_num⟩
      case measure => simp [intOf]; omega
    · have hor : (r.extract (3 * q.size - 5) (3 * q.size - 5 + 4)).toList = [32, 111, 114, 32] := by
        have h1 := letters_or q.data.toList hl2
        rw [data_len] at h1
        rw [ByteArray.toList_eq, Lib.extract_data, HR.out, show 3 * q.size - 5 + 4 - (3 * q.size - 5) = 4 by omega]
        exact h1
      have HO : Hid ((r.extract (3 * q.size - 5) (3 * q.size - 5 + 4)).toList = [32, 111, 114, 32]) := hor
      clear hor
      go_wp2
      go_ret
      exact ⟨ret_bool (by rw [HO.out]; rfl), HB.out⟩
theorem reads_any (s : ByteArray) (w : World) (hs : s.size ≤ maxLen) : Calls Try.prog 3 #[.string s] w fun e w' => e = .returned (.bool true) ∧ Below w.heap.size w w' := by
  by_cases h : s.size < 2
  · exact reads_short s w h
  · exact reads_long s w (by omega) hs

end Go.Proofs.Qxb6001274a
