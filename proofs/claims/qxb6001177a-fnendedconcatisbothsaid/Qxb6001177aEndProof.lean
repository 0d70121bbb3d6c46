import Derived.Test.Qxb6001177aEndStat
import Derived.ProofKit
import Derived.OpenShut
import Derived.ShutString
import Derived.ChangeOld
import Derived.Below
namespace Go.Proofs.Qxb6001177a.fnEndedConcatIsBoth
open Go.ChangeShapes Go.WideShapes Go.ChangeAt Go.RowKit
open Go.ChangeMaps (open_string shut_string)
set_option linter.unusedVariables false

theorem own : ownKnob Try.prog.godebug = none := by kernel_rfl
theorem laidOut : laidOutB Try.prog = true := by kernel_rfl

/-- WHAT THE WALK IS TOLD OF A SLICE OF INTEGERS THAT CAME IN: it is nil; or it leads to a row of 'cap' cells, the numbers 'zs' (the first 'len' are its elements, the rest its spare room), each fitting its kind. -/
def IsRow (k : IntKind) (w : World) (a : Option Addr) (len cap : Nat) (zs : List Int) : Prop :=
  (a = none ∧ len = 0 ∧ cap = 0 ∧ zs = []) ∨
  ∃ x, a = some x ∧ len ≤ cap ∧ cap ≤ maxLen ∧ zs.length = cap ∧ (∀ i, i < zs.length → w.cell? (x.add i) = some (.int k (zs.getD i 0))) ∧ ∀ n ∈ zs, (Lit.int k n).wf = true

/-! ### STEP 1: THE WALK -/
theorem lt_of_cell {w : World} {a : Addr} {v : Value} (h : w.cell? a = some v) : a.block < w.heap.size := by
  rcases Nat.lt_or_ge a.block w.heap.size with h1 | h1
  · exact h1
  · have : w.heap[a.block]? = none := by simp [h1]
    simp [World.cell?, this] at h

theorem IsRow.later {w w' : World} {a : Option Addr} {len cap : Nat} {zs : List Int} (h : IsRow .i64 w a len cap zs) (hb : Below w.heap.size w w') : IsRow .i64 w' a len cap zs := by
  rcases h with h | ⟨x, h1, h2, h3, h4, h5, h6⟩
  · exact .inl h
  · refine .inr ⟨x, h1, h2, h3, h4, fun i hi => ?_, h6⟩
    rw [hb.cell (lt_of_cell (h5 i hi))]
    exact h5 i hi

theorem IsRow.len_le {w : World} {a : Option Addr} {len cap : Nat} {zs : List Int} (h : IsRow .i64 w a len cap zs) : len ≤ maxLen := by
  rcases h with ⟨_, rfl, _⟩ | ⟨x, _, h2, h3, _⟩
  · exact Nat.zero_le _
  · omega

/-- What a clone is: n numbers f in a row at the head of block B (where there is one). -/
structure Has (w : World) (ao : Option Addr) (B n : Nat) (f : Nat → Int) : Prop where
  at' : 0 < n → B < w.heap.size ∧ ao = some ⟨B, 0, none⟩
  cell : ∀ i, i < n → w.cell? ⟨B, i, none⟩ = some (.int .i64 (f i))

theorem Has.later {w w' : World} {ao : Option Addr} {B n : Nat} {f : Nat → Int} (h : Has w ao B n f) (hb : Below w.heap.size w w') : Has w' ao B n f := by
  refine ⟨fun hn => ⟨Nat.lt_of_lt_of_le (h.at' hn).1 hb.size, (h.at' hn).2⟩, fun i hi => ?_⟩
  rw [hb.cell (p := ⟨B, i, none⟩) (h.at' (by omega)).1]
  exact h.cell i hi

theorem clone_row (a : Option Addr) (len cap : Nat) (zs : List Int) (w : World) (h : IsRow .i64 w a len cap zs) (hl : len ≤ 1048576) :
    Calls Try.prog 20 #[.slice a len cap] w fun e w' => (∃ ao B, e = .returned (.slice ao len len) ∧ Has w' ao B len (fun i => zs.getD i 0)) ∧ Below w.heap.size w w' := by
  rcases h with ⟨rfl, rfl, rfl, rfl⟩ | ⟨x, rfl, h2, h3, h4, h5, h6⟩
  · exact (clone_nil w).mono fun e w' ⟨he, hw⟩ => ⟨⟨none, 0, he, fun h => by omega, fun i hi => by omega⟩, by rw [hw]; exact Below.refl _ _⟩
  · obtain ⟨b, off, spot⟩ := x
    have hspot : 0 < len → spot = none := fun hp => by simpa [Addr.add] using World.cell?_spot (h5 0 (by omega))
    have hc : ∀ i, i < len → w.cell? ⟨b, off + i, none⟩ = some (.int .i64 (zs.getD i 0)) := fun i hi => by
      have hs := hspot (by omega)
      subst hs
      rw [← add_plain]
      exact h5 i (by omega)
    refine (clone_any ⟨b, off, spot⟩ b off len cap (fun i => zs.getD i 0) w hl (fun hp => lt_of_cell (hc 0 hp)) (fun hp => by rw [hspot hp]) hc).mono fun e w' ⟨he, hr, hb⟩ => ⟨⟨_, _, he, fun hp => ⟨hr.lt, rfl⟩, fun i hi => hr.cell hi⟩, hb⟩

theorem all_join (f g : Nat → Int) (n m : Nat) : allB (fun i => (firsts f n ++ firsts g m).getD i 0) (n + m) = (allB f n && allB g m) := by
  have e1 : ∀ i, i < n → (firsts f n ++ firsts g m).getD i 0 = f i := fun i hi => by
    simp [List.getD, List.getElem?_append, firsts, hi]
  have e2 : ∀ i, i < m → (firsts f n ++ firsts g m).getD (n + i) 0 = g i := fun i hi => by
    simp [List.getD, firsts, hi]
  cases h1 : allB f n with
  | false =>
    obtain ⟨k, hk, hb⟩ := List.all_eq_false.1 h1
    have hk' := List.mem_range.1 hk
    simp only [Bool.false_and]
    exact allB_false (k := k) (by omega) (by rw [e1 k hk']; simpa using hb)
  | true =>
    have g1 := List.all_eq_true.1 h1
    cases h2 : allB g m with
    | false =>
      obtain ⟨k, hk, hb⟩ := List.all_eq_false.1 h2
      have hk' := List.mem_range.1 hk
      simp only [Bool.true_and]
      exact allB_false (k := n + k) (by omega) (by rw [e2 k hk']; simpa using hb)
    | true =>
      have g2 := List.all_eq_true.1 h2
      refine allB_true (fun i hi => ?_)
      by_cases hin : i < n
      · rw [e1 i hin]; exact g1 i (List.mem_range.2 hin)
      · obtain ⟨j, rfl⟩ : ∃ j, i = n + j := ⟨i - n, by omega⟩
        rw [e2 j (by omega)]; exact g2 j (List.mem_range.2 (by omega))

set_option maxHeartbeats 1000000 in
theorem walk (a0 : Option Addr) (len0 cap0 : Nat) (z0 : List Int) (a1 : Option Addr) (len1 cap1 : Nat) (z1 : List Int) (w : World) (w0 : IsRow .i64 w a0 len0 cap0 z0) (w1 : IsRow .i64 w a1 len1 cap1 z1) :
    Calls Try.prog 5 #[.slice a0 len0 cap0, .slice a1 len1 cap1] w fun e w' => e = .returned (.bool true) ∧ Below w.heap.size w w' := by
  have l0 := w0.len_le
  have l1 := w1.len_le
  have HZ : Hid (Calls Try.prog 19 #[.slice a0 len0 cap0, .slice a1 len1 cap1] w fun e w' => BoolEnd e ∧ w' = w) := zzBytesEnd_any a0 a1 len0 cap0 len1 cap1 w l0 l1
  have R0 : Hid (IsRow .i64 w a0 len0 cap0 z0) := w0
  have R1 : Hid (IsRow .i64 w a1 len1 cap1 z1) := w1
  clear w0 w1
  unfold maxLen at l0 l1
  by_cases h0 : (65536 : Int) < len0
  · go_enter Try.func5, Try.ntmps5
    go_wp2_with fail
    refine HZ.out.mono ?_
    rintro e w' ⟨⟨r, rfl⟩, rfl⟩
    cases r
    all_goals
      go_wp2
      go_ret
      exact ⟨rfl, Below.refl _ _⟩
  by_cases h1 : (65536 : Int) < len1
  · go_enter Try.func5, Try.ntmps5
    go_wp2_with fail
    refine HZ.out.mono ?_
    rintro e w' ⟨⟨r, rfl⟩, rfl⟩
    cases r
    all_goals
      go_wp2
      go_ret
      exact ⟨rfl, Below.refl _ _⟩
  have h2 : ¬ (1048576 : Int) < 8 * (len0 + len1) := by omega
  go_enter Try.func5, Try.ntmps5
  go_wp2_with fail
  refine HZ.out.mono ?_
  rintro e w' ⟨⟨r, rfl⟩, rfl⟩
  cases r
  · go_wp2
    go_ret
    exact ⟨rfl, Below.refl _ _⟩
  clear HZ
  go_wp2_with fail
  refine (clone_row a0 len0 cap0 z0 _ R0.out (by omega)).mono ?_
  rintro e wa ⟨⟨ao, A, rfl, HA⟩, ba⟩
  go_wp2_with fail
  refine (clone_row a1 len1 cap1 z1 _ (R1.out.later ba) (by omega)).mono ?_
  rintro e wb ⟨⟨bo, B, rfl, HB⟩, bb⟩
  have HA2 := HA.later bb
  have b2 := ba.trans (bb.mono ba.size)
  clear HA ba bb R0 R1
  generalize (fun i => z0.getD i 0) = f at HA2
  generalize (fun i => z1.getD i 0) = g at HB
  go_wp2_with fail
  refine (join_any ao bo A B len0 len0 len1 len1 f g _ (by omega) (by omega) HA2.at' HB.at' HA2.cell HB.cell).mono ?_
  rintro e wc ⟨rfl, L⟩
  have HA3 := HA2.later L.bel
  have HB3 := HB.later L.bel
  have b3 := b2.trans (L.bel.mono b2.size)
  have HC : Has wc (some ⟨wb.heap.size, 0, none⟩) wb.heap.size (len0 + len1) (fun i => (firsts f len0 ++ firsts g len1).getD i 0) :=
    ⟨fun hp => ⟨lt_of_cell (L.cellsAt 0 hp), rfl⟩, fun i hi => L.cellsAt i hi⟩
  have HJ : Hid (allB (fun i => (firsts f len0 ++ firsts g len1).getD i 0) (len0 + len1) = (allB f len0 && allB g len1)) := all_join f g len0 len1
  generalize (fun i => (firsts f len0 ++ firsts g len1).getD i 0) = h at HC HJ
  clear HA2 HB L b2
  go_wp2_with fail
  refine (stat_any none 0 0 0 (fun _ => 0) _ (by omega) (fun h => by omega) (fun i hi => by omega)).mono ?_
  rintro e wd ⟨rfl, bd⟩
  have HA4 := HA3.later bd
  have HB4 := HB3.later bd
  have HC4 := HC.later bd
  have b4 := b3.trans (bd.mono b3.size)
  clear HA3 HB3 HC bd b3
  rw [show allB (fun _ => 0) 0 = true from rfl]
  go_wp2_with fail
  refine (stat_any _ wb.heap.size (len0 + len1) (len0 + len1) h _ (by omega) HC4.at' HC4.cell).mono ?_
  rintro e we ⟨rfl, be⟩
  have HA5 := HA4.later be
  have HB5 := HB4.later be
  have b5 := b4.trans (be.mono b4.size)
  clear HA4 HB4 HC4 be b4
  go_wp2_with fail
  refine (stat_any ao A len0 len0 f _ (by omega) HA5.at' HA5.cell).mono ?_
  rintro e wf ⟨rfl, bf⟩
  have HB6 := HB5.later bf
  have b6 := b5.trans (bf.mono b5.size)
  clear HA5 HB5 bf b5
  rw [HJ.out]
  cases hf : allB f len0
  · go_wp2
    go_ret
    exact ⟨rfl, b6⟩
  · go_wp2_with fail
    refine (stat_any bo B len1 len1 g _ (by omega) HB6.at' HB6.cell).mono ?_
    rintro e wg ⟨rfl, bg⟩
    have b7 := b6.trans (bg.mono b6.size)
    go_wp2
    go_ret
    exact ⟨ret_bool (by simp), b7⟩

/-! ### THE ROW's STEP: WRITTEN OUT: LEAVE IT -/
set_option maxRecDepth 100000 in
theorem lifted (os : Os) (started : os.Started) (H : Type) (enc : TypeId × Value → H) :
    ReturnsInHanded {} Try.checked os 5 .any (Rows.fnEndedConcatIsBothSpec.pre6 enc Try.prog Try.f5 Rows.fnEndedConcatIsBothRow.domain false) (Rows.fnEndedConcatIsBothSpec.post enc Try.prog Try.f5 false true false false) := by
  refine returnsInHanded_of_change (C := Try.checked) own started (by kernel_rfl) Try.func5
    (ChangeSpec.witness6 (enc := enc) (C := Try.checked) false ⟨#[], #[.slice none 0 0, .slice none 0 0], []⟩ 8 (by kernel_rfl) (by kernel_rfl) (by kernel_rfl) (by kernel_rfl)) ?_
  intro W base args ds gs before hval0 hW hcnd _
  have hval : ∀ (j : Nat) t v, Try.f5.params[j]? = some t → args[j]? = some v → Value.okWide Try.prog W .any base t v := hval0
  have hW' := hW
  obtain ⟨p, q, hA0, hV, rfl, hfz, hnd⟩ := hW
  have hA : DataW.TrodAll enc Try.prog W 0 (fun _ => true) true Try.f5.params.toList args.toList ds p := hA0
  rw [Try.params5] at hA hval
  obtain ⟨v0, vs0, d0, ds0, p0, q0, hargs, rfl, rfl, h0, r0⟩ := trodAll_cons hA
  obtain ⟨v1, vs1, d1, ds1, p1, q1, rfl, rfl, rfl, h1, r1⟩ := trodAll_cons r0
  obtain ⟨rfl, rfl, rfl⟩ := trodAll_nil r1
  obtain rfl : args = #[v0, v1] := by cases args; simp_all
  obtain ⟨rfl, rfl⟩ := trodVars_none hV
  obtain ⟨a0, len0, cap0, rfl⟩ := okWide_slice Try.underlying36 (hval 0 36 v0 rfl rfl)
  have k0 := h0
  have lt0 : ∀ x ∈ p0, x.block < W.heap.size := by obtain ⟨m, hm⟩ := k0; exact DataW.trod_lt m _ _ _ hm
  obtain ⟨z0, w0⟩ : ∃ zs, IsRow .i64 W a0 len0 cap0 zs := by
    obtain ⟨fuel, hf⟩ := h0
    rcases open_ints Try.underlying36 Try.underlying3 (by kernel_rfl) hf with ⟨hcs, _⟩ | ⟨x, l, c, zs, hcs, _, hl, hm, hz, _, hcell, hwz⟩
    · simp [Value.cells] at hcs
      obtain ⟨rfl, rfl, rfl⟩ := hcs
      exact ⟨[], .inl ⟨rfl, rfl, rfl, rfl⟩⟩
    · simp [Value.cells] at hcs
      obtain ⟨rfl, rfl, rfl⟩ := hcs
      exact ⟨zs, .inr ⟨_, rfl, hl, hm, by simpa using hz, hcell, hwz⟩⟩
  obtain ⟨a1, len1, cap1, rfl⟩ := okWide_slice Try.underlying36 (hval 1 36 v1 rfl rfl)
  have k1 := h1
  have lt1 : ∀ x ∈ p1, x.block < W.heap.size := by obtain ⟨m, hm⟩ := k1; exact DataW.trod_lt m _ _ _ hm
  obtain ⟨z1, w1⟩ : ∃ zs, IsRow .i64 W a1 len1 cap1 zs := by
    obtain ⟨fuel, hf⟩ := h1
    rcases open_ints Try.underlying36 Try.underlying3 (by kernel_rfl) hf with ⟨hcs, _⟩ | ⟨x, l, c, zs, hcs, _, hl, hm, hz, _, hcell, hwz⟩
    · simp [Value.cells] at hcs
      obtain ⟨rfl, rfl, rfl⟩ := hcs
      exact ⟨[], .inl ⟨rfl, rfl, rfl, rfl⟩⟩
    · simp [Value.cells] at hcs
      obtain ⟨rfl, rfl, rfl⟩ := hcs
      exact ⟨zs, .inr ⟨_, rfl, hl, hm, by simpa using hz, hcell, hwz⟩⟩
  clear hA0 hval0
  refine (walk a0 len0 cap0 z0 a1 len1 cap1 z1 W w0 w1).mono fun e W' ⟨he, bel⟩ => ?_
  subst he
  exact ⟨_, rfl, _, _, _, [], _, [], hW', trodAll_mk1 (shut_bool Try.underlying4 _), (trodAll_cons_mk (Below.trod laidOut (by kernel_rfl) (of_decide_eq_true (by kernel_rfl)) k0 bel lt0) (trodAll_cons_mk (Below.trod laidOut (by kernel_rfl) (of_decide_eq_true (by kernel_rfl)) k1 bel lt1) trodAll_mk0)), rfl, bel.frame _, fun h => by cases h⟩

theorem over : Rows.fnEndedConcatIsBothRow.holds Try.pinned (OpenSpec.ofChange Rows.fnEndedConcatIsBothSpec) :=
  OpenClaim.holds_of_wide 5 Try.f5 rfl rfl rfl rfl rfl rfl rfl ⟨rfl, rfl, rfl, rfl, rfl⟩ rfl rfl rfl rfl rfl (by kernel_rfl) Try.func5 (by kernel_rfl)
    (of_decide_eq_true (by kernel_rfl)) (by unfold Func.isWrapper; first | (rw [if_pos (by decide +kernel)]; kernel_rfl) | (rw [if_neg (by decide +kernel)]; exact ⟨rfl, rfl⟩))
    (fun os started H enc _ => lifted os started H enc)

end Go.Proofs.Qxb6001177a.fnEndedConcatIsBoth

namespace Go.Proofs.Qxb6001177a
/-- The given statement. -/
theorem fnEndedConcatIsBoth_proved : Rows.FnEndedConcatIsBothSaid := fnEndedConcatIsBoth.over
end Go.Proofs.Qxb6001177a
