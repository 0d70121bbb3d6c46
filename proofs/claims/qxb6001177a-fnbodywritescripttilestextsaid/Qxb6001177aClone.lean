import Derived.Test.Qxb6001177aScript
import Derived.Lib.SliceRun
namespace Go.Proofs.Qxb6001177a
open Go.RowKit Go.Deep

/-- It returns a bool, whichever. -/
def BoolOut (e : Ending) : Prop := ∃ r : Bool, e = .returned (.bool r)

/-- A slice that came in: n values v 0, v 1, .. from ⟨b, off⟩ on (where there is one). -/
structure HasO (w : World) (co : Option Addr) (b off n : Nat) (v : Nat → Value) : Prop where
  loc : 0 < n → b < w.heap.size ∧ co = some ⟨b, off, none⟩
  cell : ∀ i, i < n → w.cell? ⟨b, off + i, none⟩ = some (v i)

theorem HasO.later {w w' : World} {co : Option Addr} {b off n : Nat} {v : Nat → Value} (h : HasO w co b off n v) (hb : Below w.heap.size w w') : HasO w' co b off n v :=
  ⟨fun hn => ⟨Nat.lt_of_lt_of_le (h.loc hn).1 hb.size, (h.loc hn).2⟩, fun i hi => by rw [hb.cell (p := ⟨b, off + i, none⟩) (h.loc (by omega)).1]; exact h.cell i hi⟩

theorem HasV.later {w w' : World} {co : Option Addr} {C n : Nat} {v : Nat → Value} {B : Nat} (h : HasV B w co C n v) (hB : B ≤ w.heap.size) (hb : Below w.heap.size w w') : HasV w'.heap.size w' co C n v :=
  ⟨fun hn => ⟨by have := (h.loc hn).1; have := hb.size; omega, (h.loc hn).2⟩, fun i hi => by rw [hb.cell (p := ⟨C, i, none⟩) (by have := (h.loc (by omega)).1; show C < _; omega)]; exact h.cell i hi⟩

theorem infoStr : (Try.prog.info? 9).map (fun i => (i.zero, i.size, i.bytes)) = some (some (.string ByteArray.empty), 1, 16) := by kernel_rfl
theorem infoBool : (Try.prog.info? 4).map (fun i => (i.zero, i.size, i.bytes)) = some (some (.bool false), 1, 1) := by kernel_rfl

/-- The copy's own row when k of its values are laid. -/
def laidTo (z : Value) (v : Nat → Value) (k : Nat) : Nat → Value := fun i => if i < k then v i else z

theorem laidTo_step {w : World} {b : Nat} {t : TypeId} {n : Nat} {z : Value} {v : Nat → Value} {k : Nat} (h : (w.setCell ⟨b, k, none⟩ (v k)).rowIs b t n (fun j => if j = k then v k else laidTo z v k j)) : (w.setCell ⟨b, k, none⟩ (v k)).rowIs b t n (laidTo z v (k + 1)) := by
  refine h.congr (fun i _ => ?_)
  unfold laidTo
  by_cases h1 : i = k
  · subst h1; simp
  · by_cases h2 : i < k
    · simp [h1, h2, show i < k + 1 by omega]
    · simp [h1, h2, show ¬ i < k + 1 by omega]

theorem cloneS_nil (w : World) : Calls Try.prog 9 #[.slice none 0 0] w fun e w' => e = .returned (.slice none 0 0) ∧ w' = w := by
  have qT : ∀ (w : World) (a : Option Addr) (n c n' c' : Nat), (binOp .eql 22 (.slice a n c) (.slice none n' c')).run Try.prog w = .ok (.bool a.isNone) w := fun w a n c n' c' => Lib.run_eql_slice_nil w _ _ a n c n' c' Try.underlying22
  go_enter Try.func9, Try.ntmps9
  go_wp2
  go_ret
  exact ⟨rfl, rfl⟩

theorem cloneB_nil (w : World) : Calls Try.prog 10 #[.slice none 0 0] w fun e w' => e = .returned (.slice none 0 0) ∧ w' = w := by
  have qT : ∀ (w : World) (a : Option Addr) (n c n' c' : Nat), (binOp .eql 23 (.slice a n c) (.slice none n' c')).run Try.prog w = .ok (.bool a.isNone) w := fun w a n c n' c' => Lib.run_eql_slice_nil w _ _ a n c n' c' Try.underlying23
  go_enter Try.func10, Try.ntmps10
  go_wp2
  go_ret
  exact ⟨rfl, rfl⟩

set_option maxHeartbeats 400000 in
theorem cloneS_some (ad : Addr) (b off n cap : Nat) (f : Nat → ByteArray) (w : World) (hl : n ≤ 1048576) (h : HasO w (some ad) b off n (fun i => .string (f i))) :
    Calls Try.prog 9 #[.slice (some ad) n cap] w fun e w' => e = .returned (.slice (some ⟨w.heap.size, 0, none⟩) n n) ∧ w'.rowIs w.heap.size 9 n (fun i => .string (f i)) ∧ Below w.heap.size w w' := by
  have qT : ∀ (w : World) (a : Option Addr) (n c n' c' : Nat), (binOp .eql 22 (.slice a n c) (.slice none n' c')).run Try.prog w = .ok (.bool a.isNone) w := fun w a n c n' c' => Lib.run_eql_slice_nil w _ _ a n c n' c' Try.underlying22
  have hmk := run_make_row' (P := Try.prog) 22 9 (.string ByteArray.empty) 16 Try.underlying22 infoStr rfl .i64 .i64 n (by omega) (by omega)
  have HO : Hid (HasO w (some ad) b off n (fun i => .string (f i))) := h
  clear h
  go_enter Try.func9, Try.ntmps9
  go_wp2
  go_loopw [4] (fun i wr => ∃ k : Nat, k ≤ n ∧ i = .int .i64 k ∧ wr.rowIs w.heap.size 9 n (laidTo (.string ByteArray.empty) (fun i => .string (f i)) k) ∧ Below w.heap.size w wr) (fun i _ => n - (intOf i).toNat)
  case atStart => exact ⟨0, Nat.zero_le _, rfl, (World.rowIs_made _ _ _ _).congr (fun i _ => by simp [laidTo]), (Below.refl _ _).alloc (Nat.le_refl _) _⟩
  case round =>
    obtain ⟨k, hk, rfl, hrow, hbel⟩ := hrel
    by_cases hlt : k < n
    · obtain ⟨hbw, e⟩ := HO.out.loc (by omega)
      have hck : wr.cell? ⟨b, off + k, none⟩ = some (.string (f k)) := (hbel.cell (p := ⟨b, off + k, none⟩) hbw).trans (HO.out.cell k hlt)
      obtain rfl : ad = ⟨b, off, none⟩ := by simpa using e
      have hcd := hrow.cell hlt
      have hfr := hrow.frozen k
      have R := laidTo_step (v := fun i => .string (f i)) (hrow.set k (.string (f k)))
      have RB := hbel.setCell (p := ⟨w.heap.size, k, none⟩) (Nat.le_refl _) (.string (f k))
      clear hrow hbel e
      go_wp2
      go_roundw
      case rel => exact ⟨k + 1, by omega, by go_num, R, RB⟩
      case measure => simp [intOf]; omega
    · go_wp2
      go_ret
      exact ⟨rfl, hrow.congr (fun i hi => by simp [laidTo]; omega), hbel⟩

set_option maxHeartbeats 400000 in
theorem cloneB_some (ad : Addr) (b off n cap : Nat) (g : Nat → Bool) (w : World) (hl : n ≤ 1048576) (h : HasO w (some ad) b off n (fun i => .bool (g i))) :
    Calls Try.prog 10 #[.slice (some ad) n cap] w fun e w' => e = .returned (.slice (some ⟨w.heap.size, 0, none⟩) n n) ∧ w'.rowIs w.heap.size 4 n (fun i => .bool (g i)) ∧ Below w.heap.size w w' := by
  have qT : ∀ (w : World) (a : Option Addr) (n c n' c' : Nat), (binOp .eql 23 (.slice a n c) (.slice none n' c')).run Try.prog w = .ok (.bool a.isNone) w := fun w a n c n' c' => Lib.run_eql_slice_nil w _ _ a n c n' c' Try.underlying23
  have hmk := run_make_row' (P := Try.prog) 23 4 (.bool false) 1 Try.underlying23 infoBool rfl .i64 .i64 n (by omega) (by omega)
  have HO : Hid (HasO w (some ad) b off n (fun i => .bool (g i))) := h
  clear h
  go_enter Try.func10, Try.ntmps10
  go_wp2
  go_loopw [4] (fun i wr => ∃ k : Nat, k ≤ n ∧ i = .int .i64 k ∧ wr.rowIs w.heap.size 4 n (laidTo (.bool false) (fun i => .bool (g i)) k) ∧ Below w.heap.size w wr) (fun i _ => n - (intOf i).toNat)
  case atStart => exact ⟨0, Nat.zero_le _, rfl, (World.rowIs_made _ _ _ _).congr (fun i _ => by simp [laidTo]), (Below.refl _ _).alloc (Nat.le_refl _) _⟩
  case round =>
    obtain ⟨k, hk, rfl, hrow, hbel⟩ := hrel
    by_cases hlt : k < n
    · obtain ⟨hbw, e⟩ := HO.out.loc (by omega)
      have hck : wr.cell? ⟨b, off + k, none⟩ = some (.bool (g k)) := (hbel.cell (p := ⟨b, off + k, none⟩) hbw).trans (HO.out.cell k hlt)
      obtain rfl : ad = ⟨b, off, none⟩ := by simpa using e
      have hcd := hrow.cell hlt
      have hfr := hrow.frozen k
      have R := laidTo_step (v := fun i => .bool (g i)) (hrow.set k (.bool (g k)))
      have RB := hbel.setCell (p := ⟨w.heap.size, k, none⟩) (Nat.le_refl _) (.bool (g k))
      clear hrow hbel e
      go_wp2
      go_roundw
      case rel => exact ⟨k + 1, by omega, by go_num, R, RB⟩
      case measure => simp [intOf]; omega
    · go_wp2
      go_ret
      exact ⟨rfl, hrow.congr (fun i hi => by simp [laidTo]; omega), hbel⟩

end Go.Proofs.Qxb6001177a
