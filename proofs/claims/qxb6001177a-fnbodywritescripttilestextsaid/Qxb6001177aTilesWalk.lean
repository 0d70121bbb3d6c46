import Derived.Test.Qxb6001177aRead
namespace Go.Proofs.Qxb6001177a
open Go.RowKit Go.Deep

theorem scan1_call {a a' : Sc} {p : PartD} (h : scan1 a p = some a') (hc : p.call.isSome = true) : a' = ⟨a.pos, a.calls + 1, a.runs, false⟩ := by
  unfold scan1 at h
  cases hp : p.call with
  | none => rw [hp] at hc; cases hc
  | some c => rw [hp] at h; simpa using h.symm

theorem scan1_text {a a' : Sc} {p : PartD} (h : scan1 a p = some a') (hc : p.call.isSome = false) : a.prev = false ∧ p.st = a.pos ∧ p.st < p.en ∧ a' = ⟨p.en, a.calls, a.runs + 1, true⟩ := by
  unfold scan1 at h
  cases hp : p.call with
  | some c => rw [hp] at hc; cases hc
  | none =>
    rw [hp] at h
    simp only at h
    split at h
    · cases h
    · rename_i hn
      simp only [not_or] at hn
      refine ⟨by simpa using hn.1, by simpa using hn.2.1, by omega, by simpa using h.symm⟩

set_option maxHeartbeats 2000000 in
theorem tiles_any (B y t : Nat) (w0 : World) (ps : List PartD) (l : List UInt8) (calls runs : Nat) (o : Bool) (w : World) (h : Body B y t w0 ps l w) (hn : ps.length ≤ 1048576) (hsc : scan z0 ps = some ⟨l.length, calls, runs, o⟩) :
    Calls Try.prog 12 #[.pointer (some ⟨y, 0, none⟩), .string ⟨l.toArray⟩, .int .i64 calls, .int .i64 runs] w fun e w' => e = .returned (.bool true) ∧ Below B w0 w' := by
  have HT : Hid (Calls Try.prog 26 #[.pointer (some ⟨y, 0, none⟩)] w fun e w' => e = .returned (.string ⟨l.toArray⟩) ∧ Body B y t w0 ps l w') := text_any B y t w0 ps l w h
  have HSC : Hid (scan z0 ps = some ⟨l.length, calls, runs, o⟩) := hsc
  have HSZ : Hid ((⟨l.toArray⟩ : ByteArray).size = l.length) := by show (⟨l.toArray⟩ : ByteArray).size = l.length; simp [ByteArray.size]
  clear h hsc
  generalize (⟨l.toArray⟩ : ByteArray) = s at HT HSZ ⊢
  go_enter Try.func12, Try.ntmps12
  go_wp2_with fail
  refine HT.out.mono ?_
  rintro e w1 ⟨rfl, hb⟩
  have HB : Hid (Body B y t w0 ps l w1) := hb
  clear hb HT
  go_wp2_with fail
  refine (parts_any B y t w0 ps l w1 HB.out).mono ?_
  rintro e w2 ⟨rfl, rfl⟩
  go_wp2_with fail
  go_loop [10, 11, 12, 13, 14] (fun vp vc vr vt i => ∃ (k : Nat) (a : Sc), k ≤ ps.length ∧ i = .int .i64 k ∧ vp = .int .i64 a.pos ∧ vc = .int .i64 a.calls ∧ vr = .int .i64 a.runs ∧ vt = .bool a.prev ∧ a.calls ≤ k ∧ a.runs ≤ k ∧ Hid (scan z0 (ps.take k) = some a)) (fun _ _ _ _ i => ps.length - (intOf i).toNat)
  case atStart => exact ⟨0, z0, by omega, rfl, rfl, rfl, rfl, rfl, by simp [z0], by simp [z0], by simp [Hid, scan]⟩
  case round =>
    obtain ⟨k, a, hk, rfl, rfl, rfl, rfl, rfl, hca, hra, HS⟩ := hrel
    by_cases hlt : k < ps.length
    · have hp : ps[k]? = some ps[k] := List.getElem?_eq_getElem hlt
      obtain ⟨a', ha'⟩ := scan_at HSC.out k _ hp
      obtain ⟨h1, h2⟩ := ha' a HS.out
      have HC : Hid (Calls Try.prog 28 #[.pointer (some ⟨y, 0, none⟩), .int .i64 k] w2 fun e w' => e = .returned (.bool (ps[k]).call.isSome) ∧ w' = w2) := isCall_any B y t w0 ps l k _ w2 HB.out hp hn
      have HST : Hid (Calls Try.prog 29 #[.pointer (some ⟨y, 0, none⟩), .int .i64 k] w2 fun e w' => e = .returned (.int .i64 (ps[k]).st) ∧ w' = w2) := start_any B y t w0 ps l k _ w2 HB.out hp hn
      have HEN : Hid (Calls Try.prog 30 #[.pointer (some ⟨y, 0, none⟩), .int .i64 k] w2 fun e w' => e = .returned (.int .i64 (ps[k]).en) ∧ w' = w2) := end_any B y t w0 ps l k _ w2 HB.out hp hn
      clear ha' HS hp
      generalize ps[k] = p at *
      cases hcall : p.call.isSome with
      | true =>
        have e1 := scan1_call h1 hcall
        subst e1
        rw [hcall] at HC
        have H2 : Hid (scan z0 (ps.take (k + 1)) = some ⟨a.pos, a.calls + 1, a.runs, false⟩) := h2
        clear h1 h2 hcall HST HEN
        go_wp2_with fail
        refine HC.out.mono ?_
        rintro e w3 ⟨rfl, rfl⟩
        go_wp2
        go_round
        case rel => exact ⟨k + 1, ⟨a.pos, a.calls + 1, a.runs, false⟩, by omega, by go_num, rfl, by go_num, rfl, rfl, by show a.calls + 1 ≤ k + 1; omega, by show a.runs ≤ k + 1; omega, H2⟩
        case measure => simp [intOf]; omega
      | false =>
        obtain ⟨e1, e2, e3, e4⟩ := scan1_text h1 hcall
        subst e4
        rw [hcall] at HC
        have H2 : Hid (scan z0 (ps.take (k + 1)) = some ⟨p.en, a.calls, a.runs + 1, true⟩) := h2
        have b1 : ((p.st : Int) != (a.pos : Int)) = false := by simp [e2]
        have b2 : ¬ (p.en : Int) ≤ (p.st : Int) := by omega
        clear h1 h2 hcall e2 e3
        go_wp2_with fail
        refine HC.out.mono ?_
        rintro e w3 ⟨rfl, rfl⟩
        go_wp2_with fail
        refine HST.out.mono ?_
        rintro e w3 ⟨rfl, rfl⟩
        go_wp2_with fail
        refine HEN.out.mono ?_
        rintro e w3 ⟨rfl, rfl⟩
        go_wp2
        go_round
        case rel => exact ⟨k + 1, ⟨p.en, a.calls, a.runs + 1, true⟩, by omega, by go_num, rfl, rfl, by go_num, rfl, by show a.calls ≤ k + 1; omega, by show a.runs + 1 ≤ k + 1; omega, H2⟩
        case measure => simp [intOf]; omega
    · obtain rfl : k = ps.length := by omega
      have hfin : a = ⟨l.length, calls, runs, o⟩ := by
        have h1 := HS.out
        rw [List.take_length, HSC.out] at h1
        exact (Option.some.inj h1).symm
      subst hfin
      have b1 : (((l.length : Nat) : Int) == (s.size : Int)) = true := by simp [HSZ.out]
      go_wp2
      go_ret
      exact ⟨rfl, HB.out.bel⟩

end Go.Proofs.Qxb6001177a
