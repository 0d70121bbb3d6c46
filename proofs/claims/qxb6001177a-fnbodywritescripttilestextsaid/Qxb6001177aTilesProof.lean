import Derived.Test.Qxb6001177aTilesLaw
import Derived.ProofKit
import Derived.OpenShut
import Derived.ShutString
import Derived.ChangeOld
import Derived.Deep.Slices
namespace Go.Proofs.Qxb6001177a.fnBodyWriteScriptTilesText
open Go.ChangeShapes Go.WideShapes Go.ChangeAt Go.RowKit Go.Deep

theorem own : ownKnob Try.prog.godebug = none := by kernel_rfl
theorem laidOut : laidOutB Try.prog = true := by kernel_rfl

/-- A slice of one-cell elements that came in, opened: what each element is, is asked by 'q'. -/
theorem open_vals {H : Type} {enc : TypeId × Value → H} {W : World} {t e : TypeId} {co : Option Addr} {len cap : Nat} {d : DataW H} {p : List MemPlace} {α : Type} [Inhabited α] (q : α → Value)
    (ht : Try.prog.underlying t = some (.slice e)) (hc : Try.prog.cellsOf e = 1) (h : DataW.Trod enc Try.prog W 0 (fun _ => true) true t (.slice co len cap) d p)
    (hq : ∀ (n : Nat) (v : Value) (y : DataW H × List MemPlace), DataW.trod enc Try.prog W 0 (fun _ => true) true n e [v] = some y → ∃ a, v = q a) :
    ∃ (b off : Nat) (f : Nat → α), len ≤ maxLen ∧ (co = none → len = 0 ∧ cap = 0) ∧ HasO W co b off len (fun i => q (f i)) := by
  have lt : ∀ x ∈ p, x.block < W.heap.size := by obtain ⟨m, hm⟩ := h; exact DataW.trod_lt m _ _ _ hm
  obtain ⟨fuel, hf⟩ := h
  rcases open_slice1 ht hc hf with ⟨hcs, _⟩ | ⟨a, len', cap', m, n, V, D, Pl, hcs, _, hl, hm, hmm, hx, hV⟩
  · simp [Value.cells] at hcs
    obtain ⟨rfl, rfl, rfl⟩ := hcs
    exact ⟨0, 0, fun _ => default, Nat.zero_le _, fun _ => ⟨rfl, rfl⟩, fun h => by omega, fun i hi => by omega⟩
  · simp [Value.cells] at hcs
    obtain ⟨rfl, rfl, rfl⟩ := hcs
    simp only [if_true] at hmm
    subst hmm
    obtain ⟨b, off, spot⟩ := a
    have each : ∀ i, i < len → ∃ x : α, V i = q x := fun i hi => hq n (V i) _ (hV i (by omega)).2
    refine ⟨b, off, fun i => if h : i < len then (each i h).choose else default, by omega, (fun h => by cases h), ?_, ?_⟩
    · intro hp
      have hspot : spot = none := by simpa [Addr.add] using World.cell?_spot (hV 0 (by omega)).1
      subst hspot
      refine ⟨lt (.cell b off) ?_, rfl⟩
      simp only [Prod.mk.injEq] at hx
      rw [hx.2]
      exact List.mem_append_left _ (MemPlace.mem_row.2 ⟨0, by omega, by simp⟩)
    · intro i hi
      have hspot : spot = none := by simpa [Addr.add] using World.cell?_spot (hV 0 (by omega)).1
      subst hspot
      rw [← add_plain, (hV i (by omega)).1]
      simp only [hi, dif_pos]
      rw [← (each i hi).choose_spec]

set_option maxRecDepth 100000 in
theorem lifted (os : Os) (started : os.Started) (H : Type) (enc : TypeId × Value → H) :
    ReturnsInHanded {} Try.checked os 3 .any (Rows.fnBodyWriteScriptTilesTextSpec.pre6 enc Try.prog Try.f3 Rows.fnBodyWriteScriptTilesTextRow.domain false) (Rows.fnBodyWriteScriptTilesTextSpec.post enc Try.prog Try.f3 false true false false) := by
  refine returnsInHanded_of_change (C := Try.checked) own started (by kernel_rfl) Try.func3
    (ChangeSpec.witness6 (enc := enc) (C := Try.checked) false ⟨#[], #[.slice none 0 0, .slice none 0 0], []⟩ 8 (by kernel_rfl) (by kernel_rfl) (by kernel_rfl) (by kernel_rfl)) ?_
  intro W base args ds gs before hval0 hW hcnd _
  have hval : ∀ (j : Nat) t v, Try.f3.params[j]? = some t → args[j]? = some v → Value.okWide Try.prog W .any base t v := hval0
  have hW' := hW
  obtain ⟨p, q, hA0, hV, rfl, hfz, hnd⟩ := hW
  have hA : DataW.TrodAll enc Try.prog W 0 (fun _ => true) true Try.f3.params.toList args.toList ds p := hA0
  rw [Try.params3] at hA hval
  obtain ⟨v0, vs0, d0, ds0, p0, q0, hargs, rfl, rfl, h0, r0⟩ := trodAll_cons hA
  obtain ⟨v1, vs1, d1, ds1, p1, q1, rfl, rfl, rfl, h1, r1⟩ := trodAll_cons r0
  obtain ⟨rfl, rfl, rfl⟩ := trodAll_nil r1
  obtain rfl : args = #[v0, v1] := by cases args; simp_all
  obtain ⟨rfl, rfl⟩ := trodVars_none hV
  obtain ⟨a0, len0, cap0, rfl⟩ := okWide_slice Try.underlying22 (hval 0 22 v0 rfl rfl)
  obtain ⟨a1, len1, cap1, rfl⟩ := okWide_slice Try.underlying23 (hval 1 23 v1 rfl rfl)
  have k0 := h0
  have k1 := h1
  have lt0 : ∀ x ∈ p0, x.block < W.heap.size := by obtain ⟨m, hm⟩ := k0; exact DataW.trod_lt m _ _ _ hm
  have lt1 : ∀ x ∈ p1, x.block < W.heap.size := by obtain ⟨m, hm⟩ := k1; exact DataW.trod_lt m _ _ _ hm
  have hwalk : Calls Try.prog 3 #[.slice a0 len0 cap0, .slice a1 len1 cap1] W fun e w' => e = .returned (.bool true) ∧ Below W.heap.size W w' := by
    obtain ⟨b, off, f, hn, hcn, hf⟩ := open_vals (fun s : ByteArray => Value.string s) Try.underlying22 (by kernel_rfl) h0 (fun n v y hy => by
      obtain ⟨s, h1, _⟩ := DataW.trod_string Try.underlying9 hy
      exact ⟨s, by simpa using h1⟩)
    obtain ⟨b', off', g, hm, han, hg⟩ := open_vals (fun s : Bool => Value.bool s) Try.underlying23 (by kernel_rfl) h1 (fun n v y hy => by
      obtain ⟨s, h1, _⟩ := DataW.trod_bool Try.underlying4 hy
      exact ⟨s, by simpa using h1⟩)
    exact tiles_law a0 a1 b off len0 cap0 b' off' len1 cap1 f g W hn hm hcn han hf hg
  clear hA0 hval0
  refine hwalk.mono fun e W' ⟨he, bel⟩ => ?_
  subst he
  exact ⟨_, rfl, _, _, _, [], _, [], hW', trodAll_mk1 (shut_bool Try.underlying4 _), (trodAll_cons_mk (Below.trod laidOut (by kernel_rfl) (of_decide_eq_true (by kernel_rfl)) k0 bel lt0) (trodAll_cons_mk (Below.trod laidOut (by kernel_rfl) (of_decide_eq_true (by kernel_rfl)) k1 bel lt1) trodAll_mk0)), rfl, bel.frame _, fun h => by cases h⟩

theorem over : Rows.fnBodyWriteScriptTilesTextRow.holds Try.pinned (OpenSpec.ofChange Rows.fnBodyWriteScriptTilesTextSpec) :=
  OpenClaim.holds_of_wide 3 Try.f3 rfl rfl rfl rfl rfl rfl rfl ⟨rfl, rfl, rfl, rfl, rfl⟩ rfl rfl rfl rfl rfl (by kernel_rfl) Try.func3 (by kernel_rfl)
    (of_decide_eq_true (by kernel_rfl)) (by unfold Func.isWrapper; first | (rw [if_pos (by decide +kernel)]; kernel_rfl) | (rw [if_neg (by decide +kernel)]; exact ⟨rfl, rfl⟩))
    (fun os started H enc _ => lifted os started H enc)

end Go.Proofs.Qxb6001177a.fnBodyWriteScriptTilesText

namespace Go.Proofs.Qxb6001177a
/-- The given statement. -/
theorem fnBodyWriteScriptTilesText_proved : Rows.FnBodyWriteScriptTilesTextSaid := fnBodyWriteScriptTilesText.over
end Go.Proofs.Qxb6001177a
