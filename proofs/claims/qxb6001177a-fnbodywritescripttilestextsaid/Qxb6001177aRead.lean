import Derived.Test.Qxb6001177aCall
import Derived.Test.Qxb6001177aTiles
namespace Go.Proofs.Qxb6001177a
open Go.RowKit Go.Deep

set_option maxHeartbeats 400000 in
theorem text_any (B y t : Nat) (w0 : World) (ps : List PartD) (l : List UInt8) (w : World) (h : Body B y t w0 ps l w) :
    Calls Try.prog 26 #[.pointer (some ⟨y, 0, none⟩)] w fun e w' => e = .returned (.string ⟨l.toArray⟩) ∧ Body B y t w0 ps l w' := by
  obtain ⟨ao, cap, m, hblk, hown⟩ := h.blk
  have c2 : w.cell? ⟨y, 2, none⟩ = some (.pointer (some ⟨t, 0, none⟩)) := by rw [Lib.cell_of_heap hblk]; rfl
  have hBw : B ≤ w.heap.size := Nat.le_trans h.hB h.bel.size
  have HS : Hid (Calls Try.prog 34 #[.pointer (some ⟨t, 0, none⟩)] w fun e w' => e = .returned (.string ⟨l.toArray⟩) ∧ Body B y t w0 ps l w') :=
    (Try.Builder_String_any_k B t l w h.bld hBw).mono fun e w' ⟨he, h1, h2, h3⟩ => ⟨he, h.others h3 h2 h1⟩
  clear hown hblk h hBw
  generalize (⟨l.toArray⟩ : ByteArray) = s at HS ⊢
  go_enter Try.func26, Try.ntmps26
  go_wp2_with fail
  refine HS.out.mono ?_
  rintro e w' ⟨rfl, hb⟩
  have HB : Hid (Body B y t w0 ps l w') := hb
  clear hb HS c2
  go_wp2
  go_ret
  exact ⟨rfl, HB.out⟩

set_option maxHeartbeats 400000 in
theorem parts_any (B y t : Nat) (w0 : World) (ps : List PartD) (l : List UInt8) (w : World) (h : Body B y t w0 ps l w) :
    Calls Try.prog 27 #[.pointer (some ⟨y, 0, none⟩)] w fun e w' => e = .returned (.int .i64 (ps.length : Nat)) ∧ w' = w := by
  obtain ⟨ao, cap, m, hblk, hown⟩ := h.blk
  have c0 : w.cell? ⟨y, 0, none⟩ = some (.slice ao ps.length cap) := by rw [Lib.cell_of_heap hblk]; rfl
  clear hown hblk h
  go_enter Try.func27, Try.ntmps27
  go_wp2
  go_ret
  exact ⟨rfl, rfl⟩

/-- The cells of part i. -/
theorem part_cells {w : World} {B : Nat} {ao : Option Addr} {cap : Nat} {ps : List PartD} (hown : w.ownsRow B 56 3 (.slice ao ps.length cap) ps.length (partCells ps)) {i : Nat} {p : PartD} (hp : ps[i]? = some p) :
    ∃ g, ao = some ⟨g, 0, none⟩ ∧ w.cell? ⟨g, i * 3, none⟩ = some (.int .i64 p.st) ∧ w.cell? ⟨g, i * 3 + 1, none⟩ = some (.int .i64 p.en) ∧ w.cell? ⟨g, i * 3 + 2, none⟩ = some (.pointer (p.call.map fun b => ⟨b, 0, none⟩)) := by
  have hi : i < ps.length := (List.getElem?_eq_some_iff.1 hp).1
  obtain ⟨g, cap', hv, hBg, hg⟩ := hown.form (by omega)
  simp only [Value.slice.injEq] at hv
  obtain ⟨rfl, _, rfl⟩ := hv
  have hc : ∀ j, j < 3 → w.cell? ⟨g, i * 3 + j, none⟩ = p.cells[j]? := fun j hj => by
    rw [hown.cellAt (i * 3 + j) (by omega), partCells_at _ _ _ _ hp hj]
  exact ⟨g, rfl, by simpa [PartD.cells] using hc 0 (by omega), by simpa [PartD.cells] using hc 1 (by omega), by simpa [PartD.cells] using hc 2 (by omega)⟩

set_option maxHeartbeats 400000 in
theorem isCall_any (B y t : Nat) (w0 : World) (ps : List PartD) (l : List UInt8) (i : Nat) (p : PartD) (w : World) (h : Body B y t w0 ps l w) (hp : ps[i]? = some p) (_hn : ps.length ≤ 1048576) :
    Calls Try.prog 28 #[.pointer (some ⟨y, 0, none⟩), .int .i64 i] w fun e w' => e = .returned (.bool p.call.isSome) ∧ w' = w := by
  obtain ⟨ao, cap, m, hblk, hown⟩ := h.blk
  have c0 : w.cell? ⟨y, 0, none⟩ = some (.slice ao ps.length cap) := by rw [Lib.cell_of_heap hblk]; rfl
  obtain ⟨g, rfl, g0, g1, g2⟩ := part_cells hown hp
  have hi : i < ps.length := (List.getElem?_eq_some_iff.1 hp).1
  clear hown hblk h hp g0 g1
  generalize ps.length = n at *
  cases hc : p.call with
  | none =>
    rw [hc] at g2
    clear hc
    go_enter Try.func28, Try.ntmps28
    go_wp2
    go_ret
    exact ⟨rfl, rfl⟩
  | some b =>
    rw [hc] at g2
    clear hc
    go_enter Try.func28, Try.ntmps28
    go_wp2
    go_ret
    exact ⟨rfl, rfl⟩

set_option maxHeartbeats 400000 in
theorem start_any (B y t : Nat) (w0 : World) (ps : List PartD) (l : List UInt8) (i : Nat) (p : PartD) (w : World) (h : Body B y t w0 ps l w) (hp : ps[i]? = some p) (_hn : ps.length ≤ 1048576) :
    Calls Try.prog 29 #[.pointer (some ⟨y, 0, none⟩), .int .i64 i] w fun e w' => e = .returned (.int .i64 p.st) ∧ w' = w := by
  obtain ⟨ao, cap, m, hblk, hown⟩ := h.blk
  have c0 : w.cell? ⟨y, 0, none⟩ = some (.slice ao ps.length cap) := by rw [Lib.cell_of_heap hblk]; rfl
  obtain ⟨g, rfl, g0, g1, g2⟩ := part_cells hown hp
  have hi : i < ps.length := (List.getElem?_eq_some_iff.1 hp).1
  clear hown hblk h hp g1 g2
  generalize ps.length = n at *
  go_enter Try.func29, Try.ntmps29
  go_wp2
  go_ret
  exact ⟨rfl, rfl⟩

set_option maxHeartbeats 400000 in
theorem end_any (B y t : Nat) (w0 : World) (ps : List PartD) (l : List UInt8) (i : Nat) (p : PartD) (w : World) (h : Body B y t w0 ps l w) (hp : ps[i]? = some p) (_hn : ps.length ≤ 1048576) :
    Calls Try.prog 30 #[.pointer (some ⟨y, 0, none⟩), .int .i64 i] w fun e w' => e = .returned (.int .i64 p.en) ∧ w' = w := by
  obtain ⟨ao, cap, m, hblk, hown⟩ := h.blk
  have c0 : w.cell? ⟨y, 0, none⟩ = some (.slice ao ps.length cap) := by rw [Lib.cell_of_heap hblk]; rfl
  obtain ⟨g, rfl, g0, g1, g2⟩ := part_cells hown hp
  have hi : i < ps.length := (List.getElem?_eq_some_iff.1 hp).1
  clear hown hblk h hp g0 g2
  generalize ps.length = n at *
  go_enter Try.func30, Try.ntmps30
  go_wp2
  go_ret
  exact ⟨rfl, rfl⟩

end Go.Proofs.Qxb6001177a
