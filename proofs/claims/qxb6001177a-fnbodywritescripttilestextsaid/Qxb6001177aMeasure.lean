import Derived.Test.Qxb6001177aClone
namespace Go.Proofs.Qxb6001177a
open Go.RowKit Go.Deep

set_option maxHeartbeats 1000000 in
theorem zzBytesTiles_any (co ao : Option Addr) (b off n cn m cm : Nat) (f : Nat → ByteArray) (w : World) (hn : n ≤ maxLen) (hm : m ≤ maxLen) (h : HasO w co b off n (fun i => .string (f i))) :
    Calls Try.prog 7 #[.slice co n cn, .slice ao m cm] w fun e w' => BoolOut e ∧ w' = w := by
  have HO : Hid (HasO w co b off n (fun i => .string (f i))) := h
  clear h
  unfold maxLen at hn hm
  by_cases h1 : (1048576 : Int) < n
  · go_enter Try.func7, Try.ntmps7
    go_wp2
    go_ret
    exact ⟨⟨_, rfl⟩, rfl⟩
  go_enter Try.func7, Try.ntmps7
  go_wp2
  go_loop [5, 6] (fun t i => ∃ k : Nat, ∃ r : Int, k ≤ n ∧ i = .int .i64 k ∧ t = .int .i64 r ∧ 0 ≤ r ∧ r ≤ 1048576) (fun _ i => n - (intOf i).toNat)
  case atStart => exact ⟨0, _, Nat.zero_le _, rfl, rfl, by omega, by omega⟩
  case round =>
    obtain ⟨k, r, hk, rfl, rfl, hr0, hr1⟩ := hrel
    by_cases hlt : k < n
    · obtain ⟨_, rfl⟩ := HO.out.loc (by omega)
      have hck := HO.out.cell k hlt
      by_cases h4 : (1048576 : Int) < (f k).size
      · go_wp2
        go_ret
        exact ⟨⟨_, rfl⟩, rfl⟩
      · by_cases h5 : (1048576 : Int) < r + (f k).size
        · go_wp2
          go_ret
          exact ⟨⟨_, rfl⟩, rfl⟩
        · go_wp2
          go_round
          case rel => exact ⟨k + 1, r + (f k).size, by omega, by go_num, rfl, by omega, by omega⟩
          case measure => simp [intOf]; omega
    · by_cases h6 : (1048576 : Int) < m
      · go_wp2
        go_ret
        exact ⟨⟨_, rfl⟩, rfl⟩
      · by_cases h7 : (1048576 : Int) < r + m
        · go_wp2
          go_ret
          exact ⟨⟨_, rfl⟩, rfl⟩
        · go_wp2
          go_ret
          exact ⟨⟨_, rfl⟩, rfl⟩

/-- What zzBodyBytes answers: a number; where it is within the cap, so is the text. -/
def Measured (f : Nat → ByteArray) (n : Nat) (e : Ending) : Prop := ∃ r : Int, e = .returned (.int .i64 r) ∧ 0 ≤ r ∧ r ≤ 1048577 ∧ (r ≤ 1048576 → (catTo (bytesOf f) n).length ≤ 1048576)

set_option maxHeartbeats 1000000 in
theorem bodyBytes_any (co ao : Option Addr) (b off n cn m cm : Nat) (f : Nat → ByteArray) (w : World) (hn : n ≤ 65536) (hm : m ≤ 65536) (h : HasO w co b off n (fun i => .string (f i))) :
    Calls Try.prog 8 #[.slice co n cn, .slice ao m cm] w fun e w' => Measured f n e ∧ w' = w := by
  have HO : Hid (HasO w co b off n (fun i => .string (f i))) := h
  clear h
  by_cases h1 : (1048576 : Int) < 16 * n + m
  · go_enter Try.func8, Try.ntmps8
    go_wp2
    go_ret
    exact ⟨⟨_, rfl, by omega, by omega, fun h => by omega⟩, rfl⟩
  go_enter Try.func8, Try.ntmps8
  go_wp2
  go_loop [5, 6] (fun t i => ∃ k : Nat, ∃ r : Int, k ≤ n ∧ i = .int .i64 k ∧ t = .int .i64 r ∧ 0 ≤ r ∧ r ≤ 1048576 ∧ Hid (((catTo (bytesOf f) k).length : Int) ≤ r)) (fun _ i => n - (intOf i).toNat)
  case atStart => exact ⟨0, _, Nat.zero_le _, rfl, rfl, by omega, by omega, by simp [Hid, catTo]; omega⟩
  case round =>
    obtain ⟨k, r, hk, rfl, rfl, hr0, hr1, HR⟩ := hrel
    by_cases hlt : k < n
    · obtain ⟨_, rfl⟩ := HO.out.loc (by omega)
      have hck := HO.out.cell k hlt
      have HE : Hid ((catTo (bytesOf f) (k + 1)).length = (catTo (bytesOf f) k).length + (f k).size) := catTo_succ_len f k
      by_cases h4 : (1048576 : Int) < (f k).size
      · go_wp2
        go_ret
        exact ⟨⟨_, rfl, by omega, by omega, fun h => by omega⟩, rfl⟩
      · by_cases h5 : (1048576 : Int) < r + (f k).size
        · go_wp2
          go_ret
          exact ⟨⟨_, rfl, by omega, by omega, fun h => by omega⟩, rfl⟩
        · go_wp2
          go_round
          case rel => exact ⟨k + 1, r + (f k).size, by omega, by go_num, rfl, by omega, by omega, by have h8 := HE.out; have h9 := HR.out; show ((catTo (bytesOf f) (k + 1)).length : Int) ≤ _; omega⟩
          case measure => simp [intOf]; omega
    · obtain rfl : k = n := by omega
      go_wp2
      go_ret
      exact ⟨⟨r, rfl, by omega, by omega, fun _ => by have h9 := HR.out; omega⟩, rfl⟩

end Go.Proofs.Qxb6001177a
