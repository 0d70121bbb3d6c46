import Derived.Test.Qxb6001145aLaw
import Derived.ProofKit
import Derived.OpenShut
import Derived.ShutString
import Derived.ChangeOld
namespace Go.Proofs.Qxb6001145a.fnIsUUIDJudgesEachByteOfAFormattedID
open Go.ChangeShapes Go.WideShapes Go.ChangeAt Go.RowKit

theorem own : ownKnob Try.prog.godebug = none := by kernel_rfl
theorem laidOut : laidOutB Try.prog = true := by kernel_rfl
theorem cells24 : Try.prog.cellsOf 24 = 16 := by kernel_rfl
theorem cells5 : Try.prog.cellsOf 5 = 1 := by kernel_rfl

/-- An array of sixteen bytes by value, opened. -/
theorem open_bytes16 {H : Type} {enc : TypeId × Value → H} {W : World} {base b0 : Nat} {spare : Nat → Bool} {held : Bool} {v : Value} {d : DataW H} {p : List MemPlace} {r : Reach}
    (hv : Value.okWide Try.prog W r b0 24 v) (h : DataW.Trod enc Try.prog W base spare held 24 v d p) :
    ∃ (A : Array Value) (x : Nat → Int), v = .agg A ∧ A.size = 16 ∧ ∀ i, i < 16 → A[i]? = some (.int .u8 (x i)) ∧ 0 ≤ x i ∧ x i ≤ 255 := by
  unfold Value.okWide at hv
  rw [Try.underlying24] at hv
  obtain ⟨A, rfl, hA, _⟩ := hv
  rw [cells24] at hA
  obtain ⟨fuel, hf⟩ := h
  obtain ⟨ys, m, _, _, _, hys, hel⟩ := DataW.trod_array Try.underlying24 hf
  have each : ∀ i, i < 16 → ∃ n : Int, A[i]? = some (.int .u8 n) ∧ 0 ≤ n ∧ n ≤ 255 := by
    intro i hi
    have h1 := hel i hi
    rw [cells5, Nat.mul_one, List.getElem?_eq_getElem (by omega)] at h1
    obtain ⟨n, e1, _, e3⟩ := DataW.trod_int Try.underlying5 h1
    have hb := bounds_u8 e3
    refine ⟨n, ?_, hb.1, hb.2⟩
    have e4 : ((Value.agg A).cells.toList.drop i).head? = some (.int .u8 n) := by
      have := congrArg List.head? e1
      simpa [List.head?_take] using this
    simpa [Value.cells, List.head?_drop] using e4
  refine ⟨A, fun i => if h : i < 16 then (each i h).choose else 0, rfl, hA, fun i hi => ?_⟩
  simp only [hi, dif_pos]
  exact (each i hi).choose_spec

set_option maxRecDepth 100000 in
theorem lifted (os : Os) (started : os.Started) (H : Type) (enc : TypeId × Value → H) :
    ReturnsInHanded {} Try.checked os 5 .any (Rows.fnIsUUIDJudgesEachByteOfAFormattedIDSpec.pre6 enc Try.prog Try.f5 Rows.fnIsUUIDJudgesEachByteOfAFormattedIDRow.domain false) (Rows.fnIsUUIDJudgesEachByteOfAFormattedIDSpec.post enc Try.prog Try.f5 false true false false) := by
  refine returnsInHanded_of_change (C := Try.checked) own started (by kernel_rfl) Try.func5
    (ChangeSpec.witness6 (enc := enc) (C := Try.checked) false ⟨#[], #[.agg #[.int .u8 0, .int .u8 0, .int .u8 0, .int .u8 0, .int .u8 0, .int .u8 0, .int .u8 0, .int .u8 0, .int .u8 0, .int .u8 0, .int .u8 0, .int .u8 0, .int .u8 0, .int .u8 0, .int .u8 0, .int .u8 0], .bool false, .int .i64 0, .int .u8 0], []⟩ 8 (by kernel_rfl) (by kernel_rfl) (by kernel_rfl) (by kernel_rfl)) ?_
  intro W base args ds gs before hval0 hW hcnd _
  have hval : ∀ (j : Nat) t v, Try.f5.params[j]? = some t → args[j]? = some v → Value.okWide Try.prog W .any base t v := hval0
  have hW' := hW
  obtain ⟨p, q, hA0, hV, rfl, hfz, hnd⟩ := hW
  have hA : DataW.TrodAll enc Try.prog W 0 (fun _ => true) true Try.f5.params.toList args.toList ds p := hA0
  rw [Try.params5] at hA hval
  obtain ⟨v0, vs0, d0, ds0, p0, q0, hargs, rfl, rfl, h0, r0⟩ := trodAll_cons hA
  obtain ⟨v1, vs1, d1, ds1, p1, q1, rfl, rfl, rfl, h1, r1⟩ := trodAll_cons r0
  obtain ⟨v2, vs2, d2, ds2, p2, q2, rfl, rfl, rfl, h2, r2⟩ := trodAll_cons r1
  obtain ⟨v3, vs3, d3, ds3, p3, q3, rfl, rfl, rfl, h3, r3⟩ := trodAll_cons r2
  obtain ⟨rfl, rfl, rfl⟩ := trodAll_nil r3
  obtain rfl : args = #[v0, v1, v2, v3] := by cases args; simp_all
  obtain ⟨rfl, rfl⟩ := trodVars_none hV
  have k0 := h0
  have lt0 : ∀ x ∈ p0, x.block < W.heap.size := by obtain ⟨m, hm⟩ := k0; exact DataW.trod_lt m _ _ _ hm
  obtain ⟨A, x, rfl, hsz, hx⟩ := open_bytes16 (hval 0 24 v0 rfl rfl) h0
  obtain ⟨up, rfl, rfl, rfl⟩ := open_bool Try.underlying4 (hval 1 4 v1 rfl rfl) h1
  obtain ⟨k, rfl, rfl, rfl, wk⟩ := open_int Try.underlying3 (hval 2 3 v2 rfl rfl) h2
  obtain ⟨c, rfl, rfl, rfl, wc⟩ := open_int Try.underlying5 (hval 3 5 v3 rfl rfl) h3
  have hwalk : Calls Try.prog 5 #[.agg A, .bool up, .int .i64 k, .int .u8 c] W fun e w' => e = .returned (.bool true) ∧ Below W.heap.size W w' := by
    have hb := bounds_u8 wc
    by_cases hk : k < 0 ∨ 36 ≤ k
    · exact law_out A up k c W hk
    · obtain ⟨n, rfl⟩ := Int.eq_ofNat_of_zero_le (show 0 ≤ k by omega)
      exact law_in A x up n c W hsz hx (by omega) hb.1 hb.2
  clear hA0 hval0
  refine hwalk.mono fun e W' ⟨he, bel⟩ => ?_
  subst he
  exact ⟨_, rfl, _, _, _, [], _, [], hW', trodAll_mk1 (shut_bool Try.underlying4 _), (trodAll_cons_mk (Below.trod laidOut (by kernel_rfl) (of_decide_eq_true (by kernel_rfl)) k0 bel lt0) (trodAll_cons_mk (shut_bool Try.underlying4 up) (trodAll_cons_mk (shut_int Try.underlying3 wk) (trodAll_cons_mk (shut_int Try.underlying5 wc) trodAll_mk0)))), rfl, bel.frame _, fun h => by cases h⟩

theorem over : Rows.fnIsUUIDJudgesEachByteOfAFormattedIDRow.holds Try.pinned (OpenSpec.ofChange Rows.fnIsUUIDJudgesEachByteOfAFormattedIDSpec) :=
  OpenClaim.holds_of_wide 5 Try.f5 rfl rfl rfl rfl rfl rfl rfl ⟨rfl, rfl, rfl, rfl, rfl⟩ rfl rfl rfl rfl rfl (by kernel_rfl) Try.func5 (by kernel_rfl)
    (of_decide_eq_true (by kernel_rfl)) (by unfold Func.isWrapper; first | (rw [if_pos (by decide +kernel)]; kernel_rfl) | (rw [if_neg (by decide +kernel)]; exact ⟨rfl, rfl⟩))
    (fun os started H enc _ => lifted os started H enc)

end Go.Proofs.Qxb6001145a.fnIsUUIDJudgesEachByteOfAFormattedID

namespace Go.Proofs.Qxb6001145a
/-- The given statement. -/
theorem fnIsUUIDJudgesEachByteOfAFormattedID_proved : Rows.FnIsUUIDJudgesEachByteOfAFormattedIDSaid := fnIsUUIDJudgesEachByteOfAFormattedID.over
end Go.Proofs.Qxb6001145a
