import Derived.Test.Qxb6001177aBody
namespace Go.Proofs.Qxb6001177a
open Go.RowKit Go.Deep

theorem infoPart : (Try.prog.info? 56).map (fun i => (i.zero, i.size, i.bytes)) = some (some (.agg #[.int .i64 0, .int .i64 0, .pointer none]), 3, 24) := by kernel_rfl

/-- The builder's length. -/
theorem len_any (B t : Nat) (l : List UInt8) (w : World) (h : Lib.IsBuilderF 61 5 B t (Lib.byteCells l) w) :
    Calls Try.prog 33 #[.pointer (some ⟨t, 0, none⟩)] w fun e w' => e = .returned (.int .i64 (l.length : Nat)) ∧ w' = w := by
  have := Try.Builder_Len_f B t (Lib.byteCells l) w h
  rwa [Lib.byteCells_length] at this

/-- What the row of parts is not: the struct's own block. -/
theorem parts_ne {w : World} {B y : Nat} {v : Value} {n : Nat} {xs : List Value} {cs : Array Value} (hown : w.ownsRow B 56 3 v n xs) (hb : w.heap[y]? = some (.cells cs 63 (0, 0))) : v.ownBlock ≠ some y := by
  intro e
  obtain ⟨c, hc⟩ := ownsRow_kind hown y e
  rw [hc] at hb
  simp at hb

/-- A NEW ROW OF PARTS LAID INTO THE STRUCT. -/
theorem Body.put {B y t : Nat} {w0 w2 : World} {ps : List PartD} {l : List UInt8} {v m : Value} {ao : Option Addr} {cap n : Nat} (hy : B ≤ y) (hn : n = ps.length)
    (hb : w2.heap[y]? = some (.cells #[v, m, .pointer (some ⟨t, 0, none⟩), .int .i64 0] 63 (0, 0))) (hown : w2.ownsRow B 56 3 (.slice ao n cap) n (partCells ps))
    (hbld : Lib.IsBuilderF 61 5 B t (Lib.byteCells l) w2) (hbel : Below B w0 w2) (hB : B ≤ w0.heap.size) : Body B y t w0 ps l (w2.setCell ⟨y, 0, none⟩ (.slice ao n cap)) := by
  subst hn
  have hne := parts_ne hown hb
  refine ⟨hy, ⟨ao, cap, m, ?_, ?_⟩, builder_keep (KeepsB.setCell (p := ⟨y, 0, none⟩) hb (by decide) _) hbld, hbel.setCell (p := ⟨y, 0, none⟩) hy _, hB⟩
  · simp [World.setCell, Array.getElem?_modify, hb]
  · exact hown.kept (row := some y) ⟨rfl, rfl, rfl, by simp [World.setCell], fun k _ hk => Below.heap_setCell _ _ _ _ (fun e => hk (by simp [e]))⟩ (Or.inr hne)

theorem Body.put' {B y t : Nat} {w0 w2 : World} {ps : List PartD} {l : List UInt8} {v m : Value} {ao : Option Addr} {cap n : Nat} (hy : B ≤ y) (hn : n = ps.length)
    (hb : w2.heap[y]? = some (.cells #[v, m, .pointer (some ⟨t, 0, none⟩), .int .i64 0] 63 (0, 0))) (hown : w2.ownsRow B 56 3 (.slice ao n cap) n (partCells ps))
    (hbld : Lib.IsBuilderF 61 5 B t (Lib.byteCells l) w2) (hbel : Below B w0 w2) (hB : B ≤ w0.heap.size) :
    Body B y t w0 ps l (w2.setCell ⟨y, 0, none⟩ (.slice ao n cap)) ∧ (w2.setCell ⟨y, 0, none⟩ (.slice ao n cap)).heap[y]? = some (.cells #[.slice ao n cap, m, .pointer (some ⟨t, 0, none⟩), .int .i64 0] 63 (0, 0)) ∧
      (w2.setCell ⟨y, 0, none⟩ (.slice ao n cap)).ownsRow B 56 3 (.slice ao n cap) n (partCells ps) := by
  have hne := parts_ne hown hb
  refine ⟨Body.put hy hn hb hown hbld hbel hB, ?_, ?_⟩
  · simp [World.setCell, Array.getElem?_modify, hb]
  · exact hown.kept (row := some y) ⟨rfl, rfl, rfl, by simp [World.setCell], fun k _ hk => Below.heap_setCell _ _ _ _ (fun e => hk (by simp [e]))⟩ (Or.inr hne)

set_option maxHeartbeats 1000000 in
theorem appendCall (B y t : Nat) (w0 : World) (ps : List PartD) (l : List UInt8) (w : World) (h : Body B y t w0 ps l w) (hn : ps.length ≤ 1048576) :
    Calls Try.prog 25 #[.pointer (some ⟨y, 0, none⟩), .int .i64 2] w fun e w' => e = .returned (.tuple #[]) ∧ ∃ c, Body B y t w0 (ps ++ [⟨l.length, l.length, some c⟩]) l w' := by
  obtain ⟨i0, hi, hz0, hz1, hz2⟩ := info_parts infoPart
  obtain ⟨ao, cap, m, hblk, hown⟩ := h.blk
  have hlen := len_any B t l w h.bld
  have HL : Hid (Calls Try.prog 33 #[.pointer (some ⟨t, 0, none⟩)] w fun e w' => e = .returned (.int .i64 (l.length : Nat)) ∧ w' = w) := hlen
  clear hlen
  have c0 : w.cell? ⟨y, 0, none⟩ = some (.slice ao ps.length cap) := by rw [Lib.cell_of_heap hblk]; rfl
  have c2 : w.cell? ⟨y, 2, none⟩ = some (.pointer (some ⟨t, 0, none⟩)) := by rw [Lib.cell_of_heap hblk]; rfl
  have hylt := lt_of_heap hblk
  generalize hN : ps.length = n at hown c0 hn hblk
  have HN : Hid (ps.length = n) := hN
  clear hN
  go_enter Try.func25, Try.ntmps25
  go_wp2_with fail
  refine HL.out.mono ?_
  rintro e w' ⟨rfl, rfl⟩
  go_wp2_with (at_builtin; refine wpList_append_lies _ rfl _ _ 50 rfl B 56 i0 _ 3 24 Try.underlying50 hi hz0 hz1 hz2 rfl (by omega) _ n (partCells ps) rfl ((hown.alloc _).alloc _) ⟨_, 0, none⟩ 1 1 [.int .i64 l.length, .int .i64 l.length, .pointer (some ⟨w'.heap.size, 0, none⟩)] rfl rfl ?c1 ?c2 (by omega) ?c3 ?c4 ?c5 (w'.heap.size + 1 + 1) (by simp) ?_)
  case c1 =>
    have e : w'.heap.size + 1 = (w'.alloc (.cells #[.string ⟨#[]⟩, .int .i64 2] 54)).heap.size := by simp
    rw [e]
    exact World.news_of_block (cs := #[.int .i64 l.length, .int .i64 l.length, .pointer (some ⟨w'.heap.size, 0, none⟩)]) (t := 56) (fr := (0, 0)) (heap_alloc_new _ _)
  case c2 => simp [Value.oneCell']
  case c3 => unfold maxLen; omega
  case c4 => omega
  case c5 => have := h.bel.size; have := h.hB; simp; omega
  intro g cap' w2 hown2 hgrow hat hglt
  have hkb : KeepsB w' w2 := ((KeepsB.alloc _ _).trans (KeepsB.alloc _ _)).trans (KeepsB.grown hgrow (fun k hk => by
    obtain ⟨c, hc⟩ := ownsRow_kind ((hown.alloc _).alloc _) k hk
    exact ⟨c, 56, _, hc, by decide, by decide⟩))
  have hne := parts_ne hown hblk
  have hb2 : w2.heap[y]? = some (.cells #[.slice ao n cap, m, .pointer (some ⟨t, 0, none⟩), .int .i64 0] 63 (0, 0)) := by
    rw [hgrow.block y (by simp; omega) (fun e => hne e.symm), Lib.alloc_old _ _ y (by simp; omega), Lib.alloc_old _ _ y hylt]
    exact hblk
  have d0 : w2.cell? ⟨y, 0, none⟩ = some (.slice ao n cap) := by rw [Lib.cell_of_heap hb2]; rfl
  have f0 : w2.frozen? ⟨y, 0, none⟩ = false := Lib.frozen_of_heap hb2 0
  have hbel2 : Below B w0 w2 := by
    have hs := h.bel.size
    have hB := h.hB
    exact ((h.bel.alloc (by omega) _).alloc (by simp; omega) _).grown hgrow (by simp; omega) (fun k hk => (hown.lt k hk).1)
  have FIN := Body.put (ps := ps ++ [⟨l.length, l.length, some w'.heap.size⟩]) (l := l) (n := n + 1) (ao := some ⟨g, 0, none⟩) (cap := cap') h.hy (by simp [HN.out]) hb2 (by rw [partCells_append, partCells_one]; exact hown2) (builder_keep hkb h.bld) hbel2 h.hB
  have HF : Hid (Body B y t w0 (ps ++ [⟨l.length, l.length, some w'.heap.size⟩]) l (w2.setCell ⟨y, 0, none⟩ (.slice (some ⟨g, 0, none⟩) (n + 1) cap'))) := FIN
  clear FIN hbel2 hb2 hne hkb hown2 hgrow hat hblk hown h HL
  go_wp2
  go_end0
  exact ⟨rfl, _, HF.out⟩
end Go.Proofs.Qxb6001177a
