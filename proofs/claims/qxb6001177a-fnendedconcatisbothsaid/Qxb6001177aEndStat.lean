import Derived.Test.Qxb6001177aEndRun
namespace Go.Proofs.Qxb6001177a
open Go.RowKit Go.Deep

/-- The cells of the row of parts when k of its calls are laid: three a part. -/
def partCell (B k : Nat) : Nat → Value := fun i => if i % 3 = 2 then .pointer (if i / 3 < k then some ⟨B + 1 + i / 3, 0, none⟩ else none) else .int .i64 0

theorem make_parts (n : Nat) (hn : n ≤ 2097152) (w : World) :
    (Instr.makeSlice 50 (.int .i64 (n : Int)) (.int .i64 (n : Int))).run Try.prog w = .ok (.slice (some ⟨w.heap.size, 0, none⟩) n n) (w.alloc (.cells (madeCells #[.int .i64 0, .int .i64 0, .pointer none] (n * 3)) 56)) := by
  obtain ⟨i0, hi, hz0, hz1, hz2⟩ := info_parts Try.info56
  have hr := run_make (P := Try.prog) w 50 56 i0 _ Try.underlying50 hi hz0 .i64 .i64 n n (by omega) (Int.le_refl _) (by rw [hz2]; omega) (by omega)
  rw [hz1] at hr
  simpa [Value.cells] using hr

theorem rowIs_parts (w : World) (n : Nat) : (w.alloc (.cells (madeCells #[.int .i64 0, .int .i64 0, .pointer none] (n * 3)) 56)).rowIs w.heap.size 56 (n * 3) (partCell w.heap.size 0) := by
  have hs : (madeCells #[Value.int .i64 0, .int .i64 0, .pointer none] (n * 3)).size = n * 3 := by simp [madeCells]
  have h := World.rowIs_alloc w (madeCells #[Value.int .i64 0, .int .i64 0, .pointer none] (n * 3)) 56 (partCell w.heap.size 0) (fun i hi => by
    rw [hs] at hi
    have h3 : i % 3 = 0 ∨ i % 3 = 1 ∨ i % 3 = 2 := by omega
    rcases h3 with h | h | h <;> simp [madeCells, hi, partCell, h])
  rwa [hs] at h

/-- k calls are laid: the row of parts at block B; call j in block B + 1 + j; below B nothing has turned since w. -/
structure Parts (B n : Nat) (f : Nat → Int) (w : World) (k : Nat) (wr : World) : Prop where
  row : wr.rowIs B 56 (n * 3) (partCell B k)
  size : wr.heap.size = B + 1 + k
  call : ∀ j, j < k → wr.cell? ⟨B + 1 + j, 1, none⟩ = some (.int .i64 (f j))
  bel : Below B w wr

theorem Parts.step {B n k : Nat} {f : Nat → Int} {w wr : World} (h : Parts B n f w k wr) (hk : k < n) :
    Parts B n f w (k + 1) ((((wr.setCell ⟨B, k * 3, none⟩ (.int .i64 0)).setCell ⟨B, k * 3 + 1, none⟩ (.int .i64 0)).setCell ⟨B, k * 3 + 2, none⟩ (.pointer (some ⟨wr.heap.size, 0, none⟩))).alloc (.cells #[.string ⟨#[]⟩, .int .i64 (f k)] 54)) := by
  have hs := h.size
  refine ⟨?_, by simp [hs]; omega, ?_, ?_⟩
  · have h3 := ((((h.row.set (k * 3) (.int .i64 0)).set (k * 3 + 1) (.int .i64 0)).set (k * 3 + 2) (.pointer (some ⟨wr.heap.size, 0, none⟩))).alloc (.cells #[.string ⟨#[]⟩, .int .i64 (f k)] 54))
    refine h3.congr (fun i hi => ?_)
    rw [hs]
    unfold partCell
    by_cases h2 : i = k * 3 + 2
    · subst h2
      have e1 : (k * 3 + 2) % 3 = 2 := by omega
      have e2 : (k * 3 + 2) / 3 = k := by omega
      simp [e1, e2]
    by_cases h1 : i = k * 3 + 1
    · subst h1
      have e1 : (k * 3 + 1) % 3 = 1 := by omega
      simp [e1]
    by_cases h0 : i = k * 3
    · subst h0
      have e1 : (k * 3) % 3 = 0 := by omega
      simp
    simp only [h0, h1, h2, if_false]
    by_cases hm : i % 3 = 2
    · have e : (i / 3 < k) ↔ (i / 3 < k + 1) := by omega
      simp [hm, e]
    · simp [hm]
  · intro j hj
    by_cases hjk : j = k
    · subst hjk
      have e : B + 1 + j = ((((wr.setCell ⟨B, j * 3, none⟩ (.int .i64 0)).setCell ⟨B, j * 3 + 1, none⟩ (.int .i64 0)).setCell ⟨B, j * 3 + 2, none⟩ (.pointer (some ⟨wr.heap.size, 0, none⟩)))).heap.size := by simp [hs]
      rw [e]
      generalize ((wr.setCell ⟨B, j * 3, none⟩ (.int .i64 0)).setCell ⟨B, j * 3 + 1, none⟩ (.int .i64 0)).setCell ⟨B, j * 3 + 2, none⟩ (.pointer (some ⟨wr.heap.size, 0, none⟩)) = W
      simp
    · have hc := h.call j (by omega)
      have hlt : B + 1 + j < wr.heap.size := by omega
      rw [World.cell?_of_block (w := wr) (a := ⟨B + 1 + j, 1, none⟩)]
      · exact hc
      · show _ = wr.heap[B + 1 + j]?
        rw [Below.heap_alloc _ _ _ (by simpa using hlt), Below.heap_setCell _ _ _ _ (by simp; omega), Below.heap_setCell _ _ _ _ (by simp; omega), Below.heap_setCell _ _ _ _ (by simp; omega)]
  · exact (((h.bel.setCell (p := ⟨B, k * 3, none⟩) (Nat.le_refl _) _).setCell (p := ⟨B, k * 3 + 1, none⟩) (Nat.le_refl _) _).setCell (p := ⟨B, k * 3 + 2, none⟩) (Nat.le_refl _) _).alloc (by simp [hs]; omega) _

set_option maxHeartbeats 400000 in
theorem stat_any (ao : Option Addr) (a n c : Nat) (f : Nat → Int) (w : World) (hn : n ≤ 2097152) (ha : 0 < n → a < w.heap.size ∧ ao = some ⟨a, 0, none⟩) (hc : ∀ i, i < n → w.cell? ⟨a, i, none⟩ = some (.int .i64 (f i))) :
    Calls Try.prog 22 #[.slice ao n c] w fun e w' => e = .returned (.bool (allB f n)) ∧ Below w.heap.size w w' := by
  have hmk := make_parts n hn
  have HA : Hid (0 < n → a < w.heap.size ∧ ao = some ⟨a, 0, none⟩) := ha
  clear ha
  go_enter Try.func22, Try.ntmps22
  go_wp2_with fail
  clear hmk
  go_loopw [4] (fun i wr => ∃ k : Nat, k ≤ n ∧ i = .int .i64 k ∧ Parts w.heap.size n f w k wr) (fun i _ => n - (intOf i).toNat)
  case atStart => exact ⟨0, by omega, rfl, rowIs_parts w n, by simp, fun j h => by omega, (Below.refl _ _).alloc (Nat.le_refl _) _⟩
  case round =>
    obtain ⟨k, hk, rfl, P⟩ := hrel
    by_cases hlt : k < n
    · obtain ⟨haw, rfl⟩ := HA.out (by omega)
      have hck : wr.cell? ⟨a, k, none⟩ = some (.int .i64 (f k)) := (P.bel.cell haw).trans (hc k hlt)
      have hc0 := P.row.cell (i := k * 3) (by omega)
      have hc1 := P.row.cell (i := k * 3 + 1) (by omega)
      have hc2 := P.row.cell (i := k * 3 + 2) (by omega)
      have hf0 := P.row.frozen (k * 3)
      have hf1 := P.row.frozen (k * 3 + 1)
      have hf2 := P.row.frozen (k * 3 + 2)
      have hlt2 : w.heap.size < wr.heap.size := by rw [P.size]; omega
      go_wp2
      go_roundw
      case rel => exact ⟨k + 1, by omega, by go_num, P.step hlt⟩
      case measure => simp [intOf]; omega
    · obtain rfl : k = n := by omega
      go_wp2_with fail
      refine (ended_any w.heap.size k k (fun j => w.heap.size + 1 + j) f wr hn (by rw [P.size]; omega) (fun i hi => by rw [P.size]; omega) (fun i hi => ⟨?_, ?_, ?_, P.call i hi⟩)).mono ?_
      · rw [P.row.cell (by omega)]; simp [partCell]
      · rw [P.row.cell (by omega)]; simp [partCell]
      · have e1 : (i * 3 + 2) % 3 = 2 := by omega
        have e2 : (i * 3 + 2) / 3 = i := by omega
        rw [P.row.cell (by omega)]; simp [partCell, e1, e2, hi]
      rintro e w2 ⟨rfl, hb2⟩
      go_wp2
      go_ret
      exact ⟨rfl, P.bel.trans (hb2.mono (by rw [P.size]; omega))⟩
end Go.Proofs.Qxb6001177a
