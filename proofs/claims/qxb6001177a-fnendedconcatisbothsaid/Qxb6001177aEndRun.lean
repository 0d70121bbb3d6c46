import Derived.Test.Qxb6001177aEndWalks
namespace Go.Proofs.Qxb6001177a
open Go.RowKit Go.Deep
theorem Try.info56 : (Try.prog.info? 56).map (fun i => (i.zero, i.size, i.bytes)) = some (some (.agg #[.int .i64 0, .int .i64 0, .pointer none]), 3, 24) := by kernel_rfl
theorem Try.info54 : (Try.prog.info? 54).map (fun i => (i.zero, i.size, i.bytes)) = some (some (.agg #[.string ByteArray.empty, .int .i64 0]), 2, 24) := by kernel_rfl
/-- Has a status ended? -/
def endB (s : Int) : Bool := s == 2 || s == 3

set_option maxHeartbeats 400000 in
theorem ended1 (s : Int) (w : World) : Calls Try.prog 36 #[.int .i64 s] w fun e w' => e = .returned (.bool (endB s)) ∧ w' = w := by
  unfold endB
  cases h1 : (s == 2)
  · cases h2 : (s == 3)
    all_goals
      go_enter Try.func36, Try.ntmps36
      go_wp2
      go_ret
      exact ⟨rfl, rfl⟩
  · go_enter Try.func36, Try.ntmps36
    go_wp2
    go_ret
    exact ⟨rfl, rfl⟩

/-- Have the first n statuses all ended? -/
def allB (f : Nat → Int) (n : Nat) : Bool := (List.range n).all fun i => endB (f i)

theorem allB_false {f : Nat → Int} {n k : Nat} (hk : k < n) (h : endB (f k) = false) : allB f n = false := by
  unfold allB
  rw [List.all_eq_false]
  exact ⟨k, List.mem_range.2 hk, by simp [h]⟩

theorem allB_true {f : Nat → Int} {n : Nat} (h : ∀ i, i < n → endB (f i) = true) : allB f n = true := by
  unfold allB
  rw [List.all_eq_true]
  exact fun i hi => h i (List.mem_range.1 hi)

set_option maxHeartbeats 400000 in
theorem ended_any (B n c : Nat) (p : Nat → Nat) (f : Nat → Int) (w : World) (hn : n ≤ 2097152) (hB : B < w.heap.size) (hp : ∀ i, i < n → p i < w.heap.size)
    (hc : ∀ i, i < n → w.cell? ⟨B, i * 3, none⟩ = some (.int .i64 0) ∧ w.cell? ⟨B, i * 3 + 1, none⟩ = some (.int .i64 0) ∧ w.cell? ⟨B, i * 3 + 2, none⟩ = some (.pointer (some ⟨p i, 0, none⟩)) ∧ w.cell? ⟨p i, 1, none⟩ = some (.int .i64 (f i))) :
    Calls Try.prog 32 #[.slice (some ⟨B, 0, none⟩) n c] w fun e w' => e = .returned (.bool (allB f n)) ∧ Below w.heap.size w w' := by
  go_enter Try.func32, Try.ntmps32
  go_wp2
  go_loopw [7] (fun i wr => ∃ k : Nat, k ≤ n ∧ i = .int .i64 k ∧ (∀ j, j < k → endB (f j) = true) ∧ Below w.heap.size w wr) (fun i _ => n - (intOf i).toNat)
  case atStart => exact ⟨0, by omega, rfl, fun j h => by omega, Below.refl _ _⟩
  case round =>
    obtain ⟨k, hk, rfl, hall, hbel⟩ := hrel
    have HA : Hid (∀ j, j < k → endB (f j) = true) := hall
    clear hall
    by_cases hlt : k < n
    · have hc0 := (hbel.cell (p := ⟨B, k * 3, none⟩) hB).trans (hc k hlt).1
      have hc1 := (hbel.cell (p := ⟨B, k * 3 + 1, none⟩) hB).trans (hc k hlt).2.1
      have hc2 := (hbel.cell (p := ⟨B, k * 3 + 2, none⟩) hB).trans (hc k hlt).2.2.1
      have hc3 := (hbel.cell (p := ⟨p k, 1, none⟩) (hp k hlt)).trans (hc k hlt).2.2.2
      have hpk : p k < wr.heap.size := Nat.lt_of_lt_of_le (hp k hlt) hbel.size
      have hbel2 : ∀ o, Below w.heap.size w (wr.alloc o) := fun o => hbel.alloc hbel.size o
      clear hbel
      go_wp2_with fail
      refine (ended1 (f k) _).mono ?_
      rintro e w2 ⟨rfl, rfl⟩
      cases he : endB (f k)
      · go_wp2
        go_ret
        exact ⟨ret_bool (allB_false hlt he).symm, hbel2 _⟩
      · go_wp2
        go_roundw
        case rel =>
          refine ⟨k + 1, by omega, by go_num, fun j hj => ?_, hbel2 _⟩
          by_cases hjk : j = k
          · rw [hjk]; exact he
          · exact HA.out j (by omega)
        case measure => simp [intOf]; omega
    · go_wp2
      go_ret
      exact ⟨ret_bool (allB_true (fun j hj => HA.out j (by omega))).symm, hbel⟩

/-- No calls: the run has ended. -/
theorem ended_nil (ao : Option Addr) (c : Nat) (w : World) :
    Calls Try.prog 32 #[.slice ao 0 c] w fun e w' => e = .returned (.bool true) ∧ w' = w := by
  go_enter Try.func32, Try.ntmps32
  go_wp2
  refine wp_loop_rounds 1 ?_
  rw [rounds_succ]
  go_wp2
  go_ret
  exact ⟨rfl, rfl⟩

end Go.Proofs.Qxb6001177a
