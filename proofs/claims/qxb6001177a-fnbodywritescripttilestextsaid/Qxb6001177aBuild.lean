import Derived.Test.Qxb6001177aWriteNil
import Derived.Test.Qxb6001177aTiles
namespace Go.Proofs.Qxb6001177a
open Go.RowKit Go.Deep

theorem ret_bool' {a b : Bool} (h : a = b) : Ending.returned (.bool a) = .returned (.bool b) := by rw [h]

/-- write at every state that a script leads to. -/
theorem write_any (B y t : Nat) (w0 : World) (σ : St) (s : ByteArray) (w : World) (h : Body B y t w0 σ.parts σ.l w) (hlast : σ.op = none → Last σ.qs) (hn : σ.qs.length ≤ 1048576) (hl : σ.l.length + s.size ≤ 1048576) :
    Calls Try.prog 31 #[.pointer (some ⟨y, 0, none⟩), .string s] w fun e w' => e = .returned (.bool (!s.data.toList.isEmpty)) ∧ Body B y t w0 (σ.write s.data.toList).parts (σ.write s.data.toList).l w' := by
  have hsz : s.data.toList.length = s.size := by rw [Array.length_toList]; rfl
  cases hs : s.data.toList.isEmpty with
  | true =>
    have e : σ.write s.data.toList = σ := by simp [St.write, hs]
    rw [e]
    exact (write_empty y s w (by rw [ByteArray.toList_eq]; exact hs)).mono fun e w' ⟨he, hw⟩ => ⟨he, by rw [hw]; exact h⟩
  | false =>
    have hs' : s.toList.isEmpty = false := by rw [ByteArray.toList_eq]; exact hs
    have e : σ.write s.data.toList = ⟨σ.qs, some (σ.op.getD σ.l.length), σ.l ++ s.data.toList⟩ := by simp [St.write, hs]
    rw [e]
    cases hop : σ.op with
    | some st =>
      have hp : σ.parts = σ.qs ++ [⟨st, σ.l.length, none⟩] := by simp [St.parts, hop]
      rw [hp] at h
      refine (write_old B y t w0 σ.qs st σ.l.length σ.l s w h hn hl hs').mono fun e w' ⟨he, hb⟩ => ⟨he, ?_⟩
      simpa [St.parts, hsz] using hb
    | none =>
      have hp : σ.parts = σ.qs := by simp [St.parts, hop]
      rw [hp] at h
      rcases hlast hop with h0 | ⟨qs', a, b, c, h0⟩
      · rw [h0] at h
        refine (write_new_nil B y t w0 σ.l s w h hl hs').mono fun e w' ⟨he, hb⟩ => ⟨he, ?_⟩
        simpa [St.parts, hsz, h0] using hb
      · rw [h0] at h hn
        refine (write_new_call B y t w0 qs' a b c σ.l s w h (by simp at hn; omega) hl hs').mono fun e w' ⟨he, hb⟩ => ⟨he, ?_⟩
        simpa [St.parts, hsz, h0] using hb

set_option maxHeartbeats 400000 in
theorem zzWrite_any (B y t : Nat) (w0 : World) (σ : St) (s : ByteArray) (w : World) (h : Body B y t w0 σ.parts σ.l w) (hlast : σ.op = none → Last σ.qs) (hn : σ.qs.length ≤ 1048576) (hl : σ.l.length + s.size ≤ 1048576) :
    Calls Try.prog 17 #[.pointer (some ⟨y, 0, none⟩), .string s] w fun e w' => e = .returned (.bool (!s.data.toList.isEmpty)) ∧ Body B y t w0 (σ.write s.data.toList).parts (σ.write s.data.toList).l w' := by
  have HW : Hid (Calls Try.prog 31 #[.pointer (some ⟨y, 0, none⟩), .string s] w fun e w' => e = .returned (.bool (!s.data.toList.isEmpty)) ∧ Body B y t w0 (σ.write s.data.toList).parts (σ.write s.data.toList).l w') := write_any B y t w0 σ s w h hlast hn hl
  clear h hlast hn hl
  generalize (!s.data.toList.isEmpty) = r at HW ⊢
  go_enter Try.func17, Try.ntmps17
  go_wp2_with fail
  refine HW.out.mono ?_
  rintro e w' ⟨rfl, hb⟩
  have HB : Hid (Body B y t w0 (σ.write s.data.toList).parts (σ.write s.data.toList).l w') := hb
  clear hb HW
  go_wp2
  go_ret
  exact ⟨rfl, HB.out⟩

end Go.Proofs.Qxb6001177a
