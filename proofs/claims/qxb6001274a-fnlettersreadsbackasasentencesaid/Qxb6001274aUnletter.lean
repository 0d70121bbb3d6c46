import Derived.Test.Qxb6001274aPlain
import Derived.Deep.OwnRows
namespace Go.Proofs.Qxb6001274a
open Go.RowKit Go.Deep

theorem infoByte : (Try.prog.info? 5).map (fun i => (i.zero, i.size, i.bytes)) = some (some (.int .u8 0), 1, 1) := by kernel_rfl

/-- The letters laid so far. -/
def laid (o : List UInt8) (k : Nat) : Nat → Value := fun j => if j < k then .int .u8 (o.getD (3 * j) 0).toNat else .int .u8 0

theorem byte_at (s : ByteArray) (i : Nat) (h : i < s.size) : s[i]'h = s.data.toList.getD i 0 := by
  have hk : i < s.data.toList.length := by rw [data_len]; exact h
  rw [List.getD, List.getElem?_eq_getElem hk]
  rfl

theorem unlet_at (o : List UInt8) (n i : Nat) (h : i < n) : (unlet o n).getD i 0 = if i + 1 < n then o.getD (3 * i) 0 else o.getD (3 * n - 1) 0 := by
  unfold unlet
  rw [List.getD, List.getElem?_map, List.getElem?_range h]
  rfl

theorem nums_bytes (l : List UInt8) : strOfNums (l.map fun b => (b.toNat : Int)) = ⟨l.toArray⟩ := by
  have h : (l.map fun b => (b.toNat : Int)).map (fun n => UInt8.ofNat n.toNat) = l := by
    rw [List.map_map]
    conv => rhs; rw [← List.map_id l]
    apply List.map_congr_left
    intro b _
    simp
  unfold strOfNums
  rw [h]

set_option maxHeartbeats 1000000 in
theorem unletter_any (s : ByteArray) (n : Nat) (w : World) (hn : 2 ≤ n) (hn2 : n ≤ 4096) (hs : s.size = 3 * n) :
    Calls Try.prog 7 #[.string s, .int .i64 n] w fun e w' => (∃ r : ByteArray, e = .returned (.string r) ∧ r.data.toList = unlet s.data.toList n) ∧ Below w.heap.size w w' := by
  have hmk := run_make_row' (P := Try.prog) 26 5 (.int .u8 0) 1 Try.underlying26 infoByte rfl .i64 .i64 n (by omega) (by omega)
  have HS : Hid (s.size = 3 * n) := hs
  have hs1 : s.size ≤ 3 * n := by omega
  have hs2 : 3 * n ≤ s.size := by omega
  clear hs
  go_enter Try.func7, Try.ntmps7
  go_wp2
  clear hmk
  go_loopw [6] (fun i wr => ∃ k : Nat, k + 1 ≤ n ∧ i = .int .i64 k ∧ wr.rowIs w.heap.size 5 n (laid s.data.toList k) ∧ Below w.heap.size w wr) (fun i _ => n - (intOf i).toNat)
  case atStart => exact ⟨0, by omega, rfl, (World.rowIs_made _ _ _ _).congr (fun i _ => by simp [laid]), (Below.refl _ _).alloc (Nat.le_refl _) _⟩
  case round =>
    obtain ⟨k, hk, rfl, hrow, hbel⟩ := hrel
    by_cases hlt : k + 1 < n
    · have hcd := hrow.cell (i := k) (by omega)
      have hfr := hrow.frozen k
      have hx : 3 * k < s.size := by omega
      have HR : Hid ((wr.setCell ⟨w.heap.size, k, none⟩ (.int .u8 ((s[3 * k]'hx).toNat : Int))).rowIs w.heap.size 5 n (laid s.data.toList (k + 1))) := by
        refine (hrow.set k (.int .u8 ((s[3 * k]'hx).toNat : Int))).congr (fun i _ => ?_)
        rw [byte_at s (3 * k) hx]
        unfold laid
        by_cases h1 : i = k
        · subst h1; simp
        · by_cases h2 : i < k
          · simp [h1, h2, show i < k + 1 by omega]
          · simp [h1, h2, show ¬ i < k + 1 by omega]
      have HB : Hid (Below w.heap.size w (wr.setCell ⟨w.heap.size, k, none⟩ (.int .u8 ((s[3 * k]'hx).toNat : Int)))) := hbel.setCell (p := ⟨w.heap.size, k, none⟩) (Nat.le_refl _) _
      clear hrow hbel
      go_wp2
      go_roundw
      case rel => exact ⟨k + 1, by omega, by go_num, HR.out, HB.out⟩
      case measure => simp [intOf]; omega
    · have hcd := hrow.cell (i := n - 1) (by omega)
      have hfr := hrow.frozen (n - 1)
      have hx : 3 * n - 1 < s.size := by omega
      have hR : (wr.setCell ⟨w.heap.size, n - 1, none⟩ (.int .u8 ((s[3 * n - 1]'hx).toNat : Int))).rowIs w.heap.size 5 n (fun j => .int .u8 ((unlet s.data.toList n).getD j 0).toNat) := by
        refine (hrow.set (n - 1) (.int .u8 ((s[3 * n - 1]'hx).toNat : Int))).congr (fun i hi => ?_)
        rw [byte_at s (3 * n - 1) hx, unlet_at _ _ _ hi]
        unfold laid
        by_cases h1 : i = n - 1
        · rw [if_pos h1, if_neg (by omega)]
        · rw [if_neg h1, if_pos (by omega), if_pos (by omega)]
      have hcv := run_convert_bytes_arg (P := Try.prog) (wr.setCell ⟨w.heap.size, n - 1, none⟩ (.int .u8 ((s[3 * n - 1]'hx).toNat : Int))) 26 5 Try.underlying26 Try.underlying5 w.heap.size 0 n n ((unlet s.data.toList n).map fun b => (b.toNat : Int)) (by simp [unlet]) (fun i hi => by
        rw [Nat.zero_add, hR.cell hi]
        simp [List.getD, unlet, hi]) 9 Try.underlying9
      rw [nums_bytes] at hcv
      have HB : Hid (Below w.heap.size w (wr.setCell ⟨w.heap.size, n - 1, none⟩ (.int .u8 ((s[3 * n - 1]'hx).toNat : Int)))) := hbel.setCell (p := ⟨w.heap.size, n - 1, none⟩) (Nat.le_refl _) _
      generalize hr : (⟨(unlet s.data.toList n).toArray⟩ : ByteArray) = r at hcv
      have HRR : Hid (r.data.toList = unlet s.data.toList n) := by show r.data.toList = unlet s.data.toList n; rw [← hr]
      clear hr hR hrow hbel
      go_wp2
      go_ret
      exact ⟨⟨r, rfl, HRR.out⟩, HB.out⟩
end Go.Proofs.Qxb6001274a
