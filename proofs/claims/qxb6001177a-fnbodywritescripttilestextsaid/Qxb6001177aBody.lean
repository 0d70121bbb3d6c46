import Derived.Test.Qxb6001177aBuilder
import Derived.Deep.OwnRows
import Derived.Deep.AppendLies
namespace Go.Proofs.Qxb6001177a
open Go.RowKit Go.Deep

/-- A part as data: where it starts, where it ends, its call's block (none: text). -/
structure PartD where
  st : Nat
  en : Nat
  call : Option Nat

/-- Its three cells. -/
def PartD.cells (p : PartD) : List Value := [.int .i64 p.st, .int .i64 p.en, .pointer (p.call.map fun b => ⟨b, 0, none⟩)]
def partCells (ps : List PartD) : List Value := ps.flatMap PartD.cells

theorem partCells_append (ps qs : List PartD) : partCells (ps ++ qs) = partCells ps ++ partCells qs := by simp [partCells]
theorem partCells_one (p : PartD) : partCells [p] = p.cells := by simp [partCells]
theorem partCells_length (ps : List PartD) : (partCells ps).length = ps.length * 3 := by
  induction ps with
  | nil => rfl
  | cons p ps ih => simp [partCells, PartD.cells] at ih ⊢; omega

theorem partCells_at (ps : List PartD) (i j : Nat) (p : PartD) (h : ps[i]? = some p) (hj : j < 3) : (partCells ps)[i * 3 + j]? = p.cells[j]? := by
  induction ps generalizing i with
  | nil => simp at h
  | cons q ps ih =>
    have e : partCells (q :: ps) = q.cells ++ partCells ps := by simp [partCells]
    rw [e]
    cases i with
    | zero =>
      simp at h
      subst h
      rw [List.getElem?_append_left (by simp [PartD.cells]; omega)]
      simp
    | succ i =>
      rw [List.getElem?_append_right (by simp [PartD.cells]; omega)]
      have := ih i (by simpa using h)
      rw [← this]
      congr 1
      simp [PartD.cells]
      omega

/-- THE BODY IN MEMORY: the struct in block y, its builder in block t, its parts in a row that the call owns; below B nothing has turned since w0. -/
structure Body (B y t : Nat) (w0 : World) (ps : List PartD) (l : List UInt8) (w : World) : Prop where
  hy : B ≤ y
  blk : ∃ ao cap m, w.heap[y]? = some (.cells #[.slice ao ps.length cap, m, .pointer (some ⟨t, 0, none⟩), .int .i64 0] 63 (0, 0)) ∧ w.ownsRow B 56 3 (.slice ao ps.length cap) ps.length (partCells ps)
  bld : Lib.IsBuilderF 61 5 B t (Lib.byteCells l) w
  bel : Below B w0 w
  hB : B ≤ w0.heap.size

/-! ### What keeps the builder, what keeps the rest -/
theorem lt_of_heap {w : World} {k : Nat} {o : Obj} (h : w.heap[k]? = some o) : k < w.heap.size := (Array.getElem?_eq_some_iff.1 h).1

/-- Every builder's block and every row of bytes stands as it stood. -/
def KeepsB (w w' : World) : Prop := ∀ (k : Nat) (c : Array Value) (T : TypeId) (fz : Nat × Nat), w.heap[k]? = some (Obj.cells c T fz) → T = 61 ∨ T = 5 → w'.heap[k]? = some (Obj.cells c T fz)

theorem KeepsB.trans {a b c : World} (h : KeepsB a b) (k : KeepsB b c) : KeepsB a c := fun i x T fz hi hT => k i x T fz (h i x T fz hi hT) hT
theorem KeepsB.refl (a : World) : KeepsB a a := fun _ _ _ _ h _ => h
theorem KeepsB.drew {a b : World} (h : KeepsB a b) : KeepsB a b.drew := h
theorem KeepsB.alloc (w : World) (o : Obj) : KeepsB w (w.alloc o) := fun k _ _ _ h _ => (Lib.alloc_old w o k (lt_of_heap h)).trans h
/-- A store into a block of another type. -/
theorem KeepsB.setCell {w : World} {p : Addr} {c : Array Value} {T : TypeId} {fz : Nat × Nat} (hp : w.heap[p.block]? = some (.cells c T fz)) (hT : T ≠ 61 ∧ T ≠ 5) (v : Value) : KeepsB w (w.setCell p v) := by
  intro k d U gz h hU
  rw [Below.heap_setCell _ _ _ _ (fun e => ?_)]
  · exact h
  · subst e
    rw [hp] at h
    simp only [Option.some.injEq, Obj.cells.injEq] at h
    rcases hU with rfl | rfl
    · exact hT.1 h.2.1
    · exact hT.2 h.2.1
/-- The growth of a row of another type. -/
theorem KeepsB.grown {w w' : World} {row : Option Nat} (hg : w.grownBy w' row) (hrow : ∀ g, row = some g → ∃ c T fz, w.heap[g]? = some (.cells c T fz) ∧ T ≠ 61 ∧ T ≠ 5) : KeepsB w w' := by
  intro k d U gz h hU
  rw [hg.block k (lt_of_heap h) (fun e => ?_)]
  · exact h
  · obtain ⟨c, T, fz, h1, h2, h3⟩ := hrow k e.symm
    rw [h1] at h
    simp only [Option.some.injEq, Obj.cells.injEq] at h
    rcases hU with rfl | rfl
    · exact h2 h.2.1
    · exact h3 h.2.1

theorem ownsRowF_keep {w w' : World} (hk : KeepsB w w') {B : Nat} {v : Value} {n : Nat} {xs : List Value} (h : w.ownsRowF B 5 1 v n xs) : w'.ownsRowF B 5 1 v n xs := by
  refine ⟨h.1, ?_⟩
  rcases h.2 with h2 | ⟨g, cap, cur, fz, hv, hg, hh, r⟩
  · exact .inl h2
  · exact .inr ⟨g, cap, cur, fz, hv, hg, hk g cur 5 fz hh (.inr rfl), r⟩

theorem builder_keep {w w' : World} (hk : KeepsB w w') {B t : Nat} {bs : List Value} (h : Lib.IsBuilderF 61 5 B t bs w) : Lib.IsBuilderF 61 5 B t bs w' := by
  rcases h with ⟨h1, v, h2, h3, h4⟩ | ⟨h1, v, h2, h3, h4⟩
  · exact .inl ⟨h1, v, hk _ _ _ _ h2 (.inl rfl), ownsRowF_keep hk h3, h4⟩
  · exact .inr ⟨h1, v, hk _ _ _ _ h2 (.inl rfl), ownsRowF_keep hk h3, h4⟩

theorem ownsRow_kind {w : World} {B : Nat} {e : TypeId} {size : Nat} {v : Value} {n : Nat} {xs : List Value} (h : w.ownsRow B e size v n xs) : ∀ g, v.ownBlock = some g → ∃ c, w.heap[g]? = some (.cells c e (0, 0)) := by
  intro g hg
  rcases h.2 with ⟨rfl, _⟩ | ⟨g', cap, cur, rfl, _, hgg, _⟩
  · simp [Value.ownBlock] at hg
  · simp [Value.ownBlock] at hg
    subst hg
    exact ⟨cur, hgg⟩

/-- An owned row of another type than uint8's under a writer of the builder. -/
theorem ownsRow_others {w w' : World} {t : Nat} (hk : Lib.OthersKept 5 (some t) w w') {c : Array Value} {fz : Nat × Nat} (ht : w.heap[t]? = some (.cells c 61 fz)) {B : Nat} {v : Value} {n : Nat} {xs : List Value} (h : w.ownsRow B 56 3 v n xs) : w'.ownsRow B 56 3 v n xs := by
  refine ⟨h.1, ?_⟩
  rcases h.2 with h2 | ⟨g, cap, cur, hv, hg, hh, r⟩
  · exact .inl h2
  · refine .inr ⟨g, cap, cur, hv, hg, hk g _ hh (fun e => ?_) (fun c fz e => ?_), r⟩
    · rw [Option.some.inj e, ht] at hh
      simp at hh
    · simp at e

theorem builder_block {w : World} {B t : Nat} {bs : List Value} (h : Lib.IsBuilderF 61 5 B t bs w) : ∃ c, w.heap[t]? = some (.cells c 61 (0, 0)) := by
  rcases h with ⟨_, v, h2, _⟩ | ⟨_, v, h2, _⟩
  · exact ⟨_, h2⟩
  · exact ⟨_, h2⟩

/-- A body under a writer of its builder (or a reader that freezes). -/
theorem Body.others {B y t : Nat} {w0 w w' : World} {ps : List PartD} {l l' : List UInt8} (h : Body B y t w0 ps l w) (hk : Lib.OthersKept 5 (some t) w w') (hb : Below B w w') (hbld : Lib.IsBuilderF 61 5 B t (Lib.byteCells l') w') : Body B y t w0 ps l' w' := by
  obtain ⟨ao, cap, m, h1, h2⟩ := h.blk
  obtain ⟨c, hc⟩ := builder_block h.bld
  refine ⟨h.hy, ⟨ao, cap, m, hk y _ h1 (fun e => ?_) (fun c fz e => ?_), ownsRow_others hk hc h2⟩, hbld, h.bel.trans hb, h.hB⟩
  · rw [Option.some.inj e, hc] at h1
    simp at h1
  · simp at e

theorem Body.drew {B y t : Nat} {w0 w : World} {ps : List PartD} {l : List UInt8} (h : Body B y t w0 ps l w) : Body B y t w0 ps l w.drew := ⟨h.hy, h.blk, h.bld, h.bel.drew, h.hB⟩

set_option maxHeartbeats 400000 in
theorem newBody (w : World) : Calls Try.prog 24 #[] w fun e w' => ∃ y t, e = .returned (.pointer (some ⟨y, 0, none⟩)) ∧ Body w.heap.size y t w [] [] w' := by
  have hmm := @run_makeMap Try.prog
  go_enter Try.func24, Try.ntmps24
  go_wp2
  go_ret
  refine ⟨w.heap.size + 1 + 1, w.heap.size + 1, rfl, by omega, ⟨none, 0, .map (some w.heap.size), ?_, World.ownsRow_nil _ _ _ _⟩, .inl ⟨by omega, .slice none 0 0, ?_, World.ownsRowF_nil _ _ _ _, by simp [Value.ownBlock]⟩, (((Below.refl _ _).alloc (Nat.le_refl _) _).alloc (by simp) _).alloc (by simp; omega) _, Nat.le_refl _⟩
  · have e : w.heap.size + 1 + 1 = ((w.alloc (.map #[] 0)).alloc (.cells #[.pointer none, .slice none 0 0] 61)).heap.size := by simp
    rw [e]
    exact heap_alloc_new _ _
  · have e : w.heap.size + 1 = (w.alloc (.map #[] 0)).heap.size := by simp
    rw [Lib.alloc_old _ _ _ (by simp), e]
    exact heap_alloc_new _ _

end Go.Proofs.Qxb6001177a
