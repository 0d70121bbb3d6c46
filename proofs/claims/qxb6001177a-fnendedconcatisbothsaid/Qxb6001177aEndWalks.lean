import Derived.Test.Qxb6001177aRows
import Derived.WalkKit
import Derived.WalkSpells
import Derived.WalkLawsBesides
import Derived.Deep.OwnRows
import Derived.Lib.SliceRun
namespace Go.Proofs.Qxb6001177a
open Go.RowKit Go.Deep

theorem ret_bool {a b : Bool} (h : a = b) : Ending.returned (.bool a) = .returned (.bool b) := by rw [h]

/-- It returns a bool, whichever. -/
def BoolEnd (e : Ending) : Prop := ∃ r : Bool, e = .returned (.bool r)

theorem Try.info3 : (Try.prog.info? 3).map (fun i => (i.zero, i.size, i.bytes)) = some (some (.int .i64 0), 1, 8) := by kernel_rfl

set_option maxHeartbeats 400000 in
theorem zzBytesEnd_any (a b : Option Addr) (la ca lb cb : Nat) (w : World) (ha : la ≤ maxLen) (hb : lb ≤ maxLen) :
    Calls Try.prog 19 #[.slice a la ca, .slice b lb cb] w fun e w' => BoolEnd e ∧ w' = w := by
  unfold maxLen at ha hb
  by_cases h1 : (1048576 : Int) < la
  · go_enter Try.func19, Try.ntmps19
    go_wp2
    go_ret
    exact ⟨⟨_, rfl⟩, rfl⟩
  by_cases h2 : (1048576 : Int) < lb
  · go_enter Try.func19, Try.ntmps19
    go_wp2
    go_ret
    exact ⟨⟨_, rfl⟩, rfl⟩
  by_cases h3 : (1048576 : Int) < la + lb
  · go_enter Try.func19, Try.ntmps19
    go_wp2
    go_ret
    exact ⟨⟨_, rfl⟩, rfl⟩
  · go_enter Try.func19, Try.ntmps19
    go_wp2
    go_ret
    exact ⟨⟨_, rfl⟩, rfl⟩

/-! ### zzCloneInts -/
/-- The copy's own row when k of its numbers are laid. -/
def upTo (f : Nat → Int) (k : Nat) : Nat → Value := fun i => if i < k then .int .i64 (f i) else .int .i64 0

theorem clone_nil (w : World) : Calls Try.prog 20 #[.slice none 0 0] w fun e w' => e = .returned (.slice none 0 0) ∧ w' = w := by
  have qT : ∀ (w : World) (a : Option Addr) (n c n' c' : Nat), (binOp .eql 36 (.slice a n c) (.slice none n' c')).run Try.prog w = .ok (.bool a.isNone) w := fun w a n c n' c' => Lib.run_eql_slice_nil w _ _ a n c n' c' Try.underlying36
  go_enter Try.func20, Try.ntmps20
  go_wp2
  go_ret
  exact ⟨rfl, rfl⟩

set_option maxHeartbeats 400000 in
theorem clone_any (ad : Addr) (b off len cap : Nat) (f : Nat → Int) (w : World) (hl : len ≤ 1048576) (hb : 0 < len → b < w.heap.size) (had : 0 < len → ad = ⟨b, off, none⟩)
    (hc : ∀ i, i < len → w.cell? ⟨b, off + i, none⟩ = some (.int .i64 (f i))) :
    Calls Try.prog 20 #[.slice (some ad) len cap] w fun e w' => e = .returned (.slice (some ⟨w.heap.size, 0, none⟩) len len) ∧ w'.rowIs w.heap.size 3 len (fun i => .int .i64 (f i)) ∧ Below w.heap.size w w' := by
  have qT : ∀ (w : World) (a : Option Addr) (n c n' c' : Nat), (binOp .eql 36 (.slice a n c) (.slice none n' c')).run Try.prog w = .ok (.bool a.isNone) w := fun w a n c n' c' => Lib.run_eql_slice_nil w _ _ a n c n' c' Try.underlying36
  have hmk := run_make_row' (P := Try.prog) 36 3 (.int .i64 0) 8 Try.underlying36 Try.info3 rfl .i64 .i64 len (by omega) (by omega)
  have HAD : Hid (0 < len → ad = ⟨b, off, none⟩) := had
  clear had
  go_enter Try.func20, Try.ntmps20
  go_wp2
  go_loopw [4] (fun i wr => ∃ k : Nat, k ≤ len ∧ i = .int .i64 k ∧ wr.rowIs w.heap.size 3 len (upTo f k) ∧ Below w.heap.size w wr) (fun i _ => len - (intOf i).toNat)
  case atStart => exact ⟨0, Nat.zero_le _, rfl, (World.rowIs_made _ _ _ _).congr (fun i _ => by simp [upTo]), (Below.refl _ _).alloc (Nat.le_refl _) _⟩
  case round =>
    obtain ⟨k, hk, rfl, hrow, hbel⟩ := hrel
    by_cases hlt : k < len
    · obtain rfl := HAD.out (by omega)
      have hck : wr.cell? ⟨b, off + k, none⟩ = some (.int .i64 (f k)) := (hbel.cell (hb (by omega))).trans (hc k hlt)
      have hcd := hrow.cell hlt
      have hfr := hrow.frozen k
      have R := hrow.set k (.int .i64 (f k))
      have RB := hbel.setCell (p := ⟨w.heap.size, k, none⟩) (Nat.le_refl _) (.int .i64 (f k))
      clear hrow hbel
      go_wp2
      go_roundw
      case rel => exact ⟨k + 1, by omega, by go_num, R.congr (fun i _ => by unfold upTo; by_cases h : i = k <;> simp [h]; by_cases h2 : i < k <;> simp [h2] <;> omega), RB⟩
      case measure => simp [intOf]; omega
    · go_wp2
      go_ret
      exact ⟨rfl, hrow.congr (fun i hi => by simp [upTo]; omega), hbel⟩

/-! ### zzJoin3 -/
/-- The numbers laid so far: the slice at the head of block B, of n of cap numbers, owns the numbers xs; below B nothing has turned since w0. -/
structure Laid (B : Nat) (w0 : World) (cap n : Nat) (xs : List Int) (wr : World) : Prop where
  own : wr.ownsRow B 3 1 (.slice (some ⟨B, 0, none⟩) n cap) n (xs.map (Value.int .i64))
  bel : Below B w0 wr

theorem Laid.length {B cap n : Nat} {w0 wr : World} {xs : List Int} (h : Laid B w0 cap n xs wr) : xs.length = n := by
  have := h.own.1
  simpa using this

theorem Laid.push {B cap n : Nat} {w0 wr w' : World} {xs : List Int} {ys : List Value} (c : Int) (h : Laid B w0 cap n xs wr) (hB : w0.heap.size = B) (o : Obj)
    (hown : w'.ownsRow B 3 1 (.slice (some ⟨B, 0, none⟩) (n + 1) cap) (n + 1) ys) (hg : (wr.alloc o).grownBy w' (some B)) (hys : ys = (xs ++ [c]).map (Value.int .i64)) : Laid B w0 cap (n + 1) (xs ++ [c]) w' := by
  refine ⟨hys ▸ hown, ?_⟩
  have hs := h.bel.size
  exact (h.bel.alloc (by omega) o).grown hg (by simp; omega) (fun k hk => by simp at hk; omega)

theorem Laid.cellsAt {B cap n : Nat} {w0 wr : World} {xs : List Int} (h : Laid B w0 cap n xs wr) : ∀ i, i < n → wr.cell? ⟨B, i, none⟩ = some (.int .i64 (xs.getD i 0)) := by
  intro i hi
  have hl := h.length
  rw [h.own.cellAt i (by omega)]
  simp [List.getD, hl, hi]

theorem one_cell (wr : World) (c : Int) : ∀ (j : Nat) (u : Value), ([Value.int .i64 c])[j]? = some u → (wr.alloc (.cells #[.int .i64 c] 3)).cell? ((⟨wr.heap.size, 0, none⟩ : Addr).add j) = some u := by
  intro j u hj
  match j, hj with
  | 0, hj => simp at hj; subst hj; simp [Addr.add]

theorem one_one (c : Int) : ∀ u ∈ [Value.int .i64 c], u.oneCell' = true := by
  intro u hu
  simp at hu
  subst hu
  rfl

/-- The first n numbers of f. -/
def firsts (f : Nat → Int) (n : Nat) : List Int := (List.range n).map f
theorem firsts_succ (f : Nat → Int) (n : Nat) : firsts f (n + 1) = firsts f n ++ [f n] := by simp [firsts, List.range_succ]
theorem firsts_len (f : Nat → Int) (n : Nat) : (firsts f n).length = n := by simp [firsts]

set_option maxHeartbeats 1000000 in
theorem join_any (ao bo : Option Addr) (a b la ca lb cb : Nat) (f g : Nat → Int) (w : World) (hla : la ≤ 1048576) (hlb : lb ≤ 1048576)
    (ha : 0 < la → a < w.heap.size ∧ ao = some ⟨a, 0, none⟩) (hb : 0 < lb → b < w.heap.size ∧ bo = some ⟨b, 0, none⟩)
    (hca : ∀ i, i < la → w.cell? ⟨a, i, none⟩ = some (.int .i64 (f i))) (hcb : ∀ i, i < lb → w.cell? ⟨b, i, none⟩ = some (.int .i64 (g i))) :
    Calls Try.prog 21 #[.slice ao la ca, .slice none 0 0, .slice bo lb cb] w fun e w' => e = .returned (.slice (some ⟨w.heap.size, 0, none⟩) (la + lb) (la + lb)) ∧ Laid w.heap.size w (la + lb) (la + lb) (firsts f la ++ firsts g lb) w' := by
  obtain ⟨i0, hi, hz0, hz1, hz2⟩ := info_parts Try.info3
  have HA : Hid (0 < la → a < w.heap.size ∧ ao = some ⟨a, 0, none⟩) := ha
  have HB : Hid (0 < lb → b < w.heap.size ∧ bo = some ⟨b, 0, none⟩) := hb
  clear ha hb
  go_enter Try.func21, Try.ntmps21
  go_wp2_with (at_make; refine wpList_make_own _ rfl _ _ 36 rfl w.heap.size 3 i0 (.int .i64 0) 1 Try.underlying36 hi hz0 hz1 .i64 .i64 _ (la + lb) rfl rfl (by omega) (by rw [hz2]; omega) (by unfold maxLen; omega) (by omega) ?_)
  intro w1 hown1 hg1
  have L0 : Laid w.heap.size w (la + lb) 0 [] w1 := ⟨by simpa using hown1, (Below.refl _ _).grown hg1 (by simp) (fun k hk => by simp at hk)⟩
  clear hown1 hg1
  go_wp2_with fail
  go_loopw [7, 8] (fun v i wr => ∃ k : Nat, k ≤ la ∧ i = .int .i64 k ∧ v = .slice (some ⟨w.heap.size, 0, none⟩) k (la + lb) ∧ Laid w.heap.size w (la + lb) k (firsts f k) wr) (fun _ i _ => la - (intOf i).toNat)
  case atStart => exact ⟨0, by omega, rfl, rfl, L0⟩
  case round =>
    clear L0
    obtain ⟨k, hk, rfl, rfl, L⟩ := hrel
    by_cases hlt : k < la
    · obtain ⟨haw, rfl⟩ := HA.out (by omega)
      have hck : wr.cell? ⟨a, k, none⟩ = some (.int .i64 (f k)) := (L.bel.cell haw).trans (hca k hlt)
      go_wp2_with (at_builtin; refine wpList_append_fits _ rfl (.tmp 26) (.tmp 31) 36 rfl w.heap.size 3 i0 1 Try.underlying36 hi hz1 w.heap.size k (la + lb) _ rfl (L.own.alloc _) ⟨_, 0, none⟩ 1 1 [.int .i64 (f k)] rfl rfl (one_cell _ _) (one_one _) (by omega) ?_)
      intro w2 hown2 hg2
      have L2 := L.push (f k) rfl _ hown2 hg2 (by simp)
      clear hown2 hg2 hck L
      go_wp2
      go_roundw
      case rel => exact ⟨k + 1, by omega, by go_num, rfl, by rw [firsts_succ]; exact L2⟩
      case measure => simp [intOf]; omega
    · obtain rfl : k = la := by omega
      go_wp2_with fail
      refine wp_loop_rounds 1 ?_
      rw [rounds_succ]
      go_wp2_with fail
      clear HA hca
      go_loopw [7, 10] (fun v i wr => ∃ j : Nat, j ≤ lb ∧ i = .int .i64 j ∧ v = .slice (some ⟨w.heap.size, 0, none⟩) (k + j) (k + lb) ∧ Laid w.heap.size w (k + lb) (k + j) (firsts f k ++ firsts g j) wr) (fun _ i _ => lb - (intOf i).toNat)
      case atStart => exact ⟨0, by omega, rfl, rfl, by simpa [firsts] using L⟩
      case round =>
        clear L
        obtain ⟨j, hj, rfl, rfl, L⟩ := hrel
        by_cases hlt : j < lb
        · obtain ⟨hbw, rfl⟩ := HB.out (by omega)
          have hck : wr.cell? ⟨b, j, none⟩ = some (.int .i64 (g j)) := (L.bel.cell hbw).trans (hcb j hlt)
          go_wp2_with (at_builtin; refine wpList_append_fits _ rfl (.tmp 52) (.tmp 57) 36 rfl w.heap.size 3 i0 1 Try.underlying36 hi hz1 w.heap.size (k + j) (k + lb) _ rfl (L.own.alloc _) ⟨_, 0, none⟩ 1 1 [.int .i64 (g j)] rfl rfl (one_cell _ _) (one_one _) (by omega) ?_)
          intro w2 hown2 hg2
          have L2 := L.push (g j) rfl _ hown2 hg2 (by simp)
          clear hown2 hg2 hck L
          go_wp2
          go_roundw
          case rel => exact ⟨j + 1, by omega, by go_num, rfl, by rw [firsts_succ, ← List.append_assoc]; exact L2⟩
          case measure => simp [intOf]; omega
        · obtain rfl : j = lb := by omega
          go_wp2
          go_ret
          exact ⟨rfl, L⟩

end Go.Proofs.Qxb6001177a
