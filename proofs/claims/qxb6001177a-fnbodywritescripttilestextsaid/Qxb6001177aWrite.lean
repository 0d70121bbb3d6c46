import Derived.Test.Qxb6001177aCall
import Derived.Deep.RegionHeld3
namespace Go.Proofs.Qxb6001177a
open Go.RowKit Go.Deep

set_option maxHeartbeats 400000 in
theorem write_empty (y : Nat) (s : ByteArray) (w : World) (hs : s.toList.isEmpty = true) :
    Calls Try.prog 31 #[.pointer (some ⟨y, 0, none⟩), .string s] w fun e w' => e = .returned (.bool false) ∧ w' = w := by
  go_enter Try.func31, Try.ntmps31
  go_wp2
  go_ret
  exact ⟨rfl, rfl⟩

/-- The cells of the last part, and what is known of the row. -/
theorem last_cells {w : World} {B : Nat} {ao : Option Addr} {cap n : Nat} {ps : List PartD} {p : PartD} (hown : w.ownsRow B 56 3 (.slice ao (n + 1) cap) (n + 1) (partCells (ps ++ [p]))) (hn : ps.length = n) :
    ∃ g, ao = some ⟨g, 0, none⟩ ∧ w.cell? ⟨g, n * 3, none⟩ = some (.int .i64 p.st) ∧ w.cell? ⟨g, n * 3 + 1, none⟩ = some (.int .i64 p.en) ∧ w.cell? ⟨g, n * 3 + 2, none⟩ = some (.pointer (p.call.map fun b => ⟨b, 0, none⟩)) ∧ w.frozen? ⟨g, n * 3 + 1, none⟩ = false ∧ g < w.heap.size ∧ B ≤ g := by
  obtain ⟨g, cap', hv, hBg, hg⟩ := hown.form (by omega)
  simp only [Value.slice.injEq] at hv
  obtain ⟨rfl, _, rfl⟩ := hv
  have hp : (ps ++ [p])[n]? = some p := by subst hn; simp
  have hc : ∀ j, j < 3 → w.cell? ⟨g, n * 3 + j, none⟩ = p.cells[j]? := fun j hj => by
    rw [hown.cellAt (n * 3 + j) (by omega), partCells_at _ _ _ _ hp hj]
  exact ⟨g, rfl, by simpa [PartD.cells] using hc 0 (by omega), by simpa [PartD.cells] using hc 1 (by omega), by simpa [PartD.cells] using hc 2 (by omega), hown.frozenAt _, hg, hBg⟩

theorem partCells_setEnd (ps : List PartD) (st en E : Nat) (c : Option Nat) : (partCells (ps ++ [⟨st, en, c⟩])).set (ps.length * 3 + 1) (.int .i64 E) = partCells (ps ++ [⟨st, E, c⟩]) := by
  rw [partCells_append, partCells_append, partCells_one, partCells_one, List.set_append_right _ _ (by rw [partCells_length]; omega)]
  have e : ps.length * 3 + 1 - (partCells ps).length = 1 := by rw [partCells_length]; omega
  rw [e]
  rfl

/-- A STORE INTO THE LAST PART's END. -/
theorem Body.setEnd {B y t g n cap : Nat} {w0 w : World} {ps : List PartD} {st en : Nat} {c : Option Nat} {l : List UInt8} {m : Value} (h : Body B y t w0 (ps ++ [⟨st, en, c⟩]) l w) (hn : ps.length = n)
    (hblk : w.heap[y]? = some (.cells #[.slice (some ⟨g, 0, none⟩) (n + 1) cap, m, .pointer (some ⟨t, 0, none⟩), .int .i64 0] 63 (0, 0)))
    (hown : w.ownsRow B 56 3 (.slice (some ⟨g, 0, none⟩) (n + 1) cap) (n + 1) (partCells (ps ++ [⟨st, en, c⟩]))) (E : Nat) :
    Body B y t w0 (ps ++ [⟨st, E, c⟩]) l (w.setCell ⟨g, n * 3 + 1, none⟩ (.int .i64 E)) := by
  subst hn
  have hgy : ¬ g = y := fun e => parts_ne hown hblk (by simp [Value.ownBlock, e])
  obtain ⟨cc, hcc⟩ := ownsRow_kind hown g (by simp [Value.ownBlock])
  have hBg : B ≤ g := (hown.lt g (by simp [Value.ownBlock])).1
  have hst := (hown.stored (ps.length * 3 + 1) (.int .i64 E)).1
  rw [partCells_setEnd] at hst
  refine ⟨h.hy, ⟨some ⟨g, 0, none⟩, cap, m, ?_, by simpa using hst⟩, builder_keep (KeepsB.setCell (p := ⟨g, ps.length * 3 + 1, none⟩) hcc (by decide) _) h.bld, h.bel.setCell (p := ⟨g, ps.length * 3 + 1, none⟩) hBg _, h.hB⟩
  rw [Below.heap_setCell _ _ _ _ (fun e => hgy e.symm), hblk]
  simp

theorem strCells_eq (l : List UInt8) (s : ByteArray) : Lib.byteCells (l ++ s.data.toList) = Lib.byteCells l ++ Lib.strCells s := by
  simp [Lib.byteCells, Lib.strCells]

set_option maxHeartbeats 1000000 in
theorem write_old (B y t : Nat) (w0 : World) (ps : List PartD) (st en : Nat) (l : List UInt8) (s : ByteArray) (w : World) (h : Body B y t w0 (ps ++ [⟨st, en, none⟩]) l w) (hn : ps.length ≤ 1048576) (hl : l.length + s.size ≤ 1048576) (hs : s.toList.isEmpty = false) :
    Calls Try.prog 31 #[.pointer (some ⟨y, 0, none⟩), .string s] w fun e w' => e = .returned (.bool true) ∧ Body B y t w0 (ps ++ [⟨st, l.length + s.size, none⟩]) (l ++ s.data.toList) w' := by
  obtain ⟨ao, cap, m, hblk, hown⟩ := h.blk
  have hlen : (ps ++ [(⟨st, en, none⟩ : PartD)]).length = ps.length + 1 := by simp
  rw [hlen] at hblk hown
  clear hlen
  generalize hN : ps.length = n at hown hn hblk
  obtain ⟨g, rfl, g0, g1, g2, gf, hgl, hBg⟩ := last_cells hown hN
  have HN : Hid (ps.length = n) := hN
  clear hN
  have c0 : w.cell? ⟨y, 0, none⟩ = some (.slice (some ⟨g, 0, none⟩) (n + 1) cap) := by rw [Lib.cell_of_heap hblk]; rfl
  have c2 : w.cell? ⟨y, 2, none⟩ = some (.pointer (some ⟨t, 0, none⟩)) := by rw [Lib.cell_of_heap hblk]; rfl
  have hnz : (((n + 1 : Nat) : Int) == 0) = false := by simp; omega
  go_enter Try.func31, Try.ntmps31
  go_wp2_with fail
  have hBw : B ≤ w.heap.size := Nat.le_trans h.hB h.bel.size
  refine (writeString_k B t (Lib.byteCells l) s _ h.bld (by rw [Lib.byteCells_length]; omega) hBw).mono ?_
  rintro e w1 ⟨rfl, hbld1, hb1, hk1⟩
  have h1 : Body B y t w0 (ps ++ [⟨st, en, none⟩]) (l ++ s.data.toList) w1 := h.others hk1 hb1 (.inr (by rw [strCells_eq]; exact hbld1))
  obtain ⟨ct, hct⟩ := builder_block h.bld
  clear hbld1 hb1
  have hblk1 : w1.heap[y]? = some (.cells #[.slice (some ⟨g, 0, none⟩) (n + 1) cap, m, .pointer (some ⟨t, 0, none⟩), .int .i64 0] 63 (0, 0)) := hk1 y _ hblk (fun e => by rw [Option.some.inj e, hct] at hblk; simp at hblk) (fun c fz e => by simp at e)
  have hown1 := ownsRow_others hk1 hct hown
  clear hk1 hct hown hblk g0 g1 g2 gf hgl c0 c2 h hBw
  obtain ⟨g', hg', g0, g1, g2, gf, hgl, _⟩ := last_cells hown1 HN.out
  obtain rfl : g = g' := by simpa using hg'
  clear hg'
  have c0 : w1.cell? ⟨y, 0, none⟩ = some (.slice (some ⟨g, 0, none⟩) (n + 1) cap) := by rw [Lib.cell_of_heap hblk1]; rfl
  have c2 : w1.cell? ⟨y, 2, none⟩ = some (.pointer (some ⟨t, 0, none⟩)) := by rw [Lib.cell_of_heap hblk1]; rfl
  have HL : Hid (∀ wx : World, Lib.IsBuilderF 61 5 B t (Lib.byteCells (l ++ s.data.toList)) wx → Calls Try.prog 33 #[.pointer (some ⟨t, 0, none⟩)] wx fun e w' => e = .returned (.int .i64 ((l ++ s.data.toList).length : Nat)) ∧ w' = wx) := fun wx hx => len_any B t _ wx hx
  have hbld1 := h1.bld
  have hgy : ¬ g = y := fun e => parts_ne hown1 hblk1 (by simp [Value.ownBlock, e])
  have hyg : ¬ y = g := fun e => hgy e.symm
  have FIN := h1.setEnd HN.out hblk1 hown1 (l.length + s.size)
  rw [Int.natCast_add] at FIN
  have HF : Hid (Body B y t w0 (ps ++ [⟨st, l.length + s.size, none⟩]) (l ++ s.data.toList) (w1.setCell ⟨g, n * 3 + 1, none⟩ (.int .i64 ((l.length : Int) + (s.size : Int))))) := FIN
  clear FIN h1 hown1 hblk1
  have hi0 : (0 : Int) ≤ (n : Int) := by omega
  have hi1 : (n : Int) < (n : Int) + 1 := by omega
  have hw1 : IntKind.i64.wrap (n : Int) = (n : Int) := by rw [IntKind.wrap_i64]; omega
  go_wp2_with fail
  go_region_held3 (fun w' => w'.cell? ⟨y, 0, none⟩ = some (.slice (some ⟨g, 0, none⟩) (n + 1) cap) ∧ w'.cell? ⟨y, 2, none⟩ = some (.pointer (some ⟨t, 0, none⟩))) (go_keep)
    ((go_at_call 33; refine (HL.out _ ?_).mono ?_; exact hbld1; rintro e w' ⟨rfl, rfl⟩))
  go_wp2
  go_ret
  exact ⟨rfl, HF.out.drew⟩
end Go.Proofs.Qxb6001177a
