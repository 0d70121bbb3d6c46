import Derived.Test.Qxb6001177aScript
namespace Go.Proofs.Qxb6001177a
open Go.RowKit Go.Deep

theorem call_cases {B : Nat} {w : World} {ao : Option Addr} {A m : Nat} {g : Nat → Bool} (h : HasV B w ao A m (fun i => .bool (g i))) (k : Nat) :
    (callAt g m k = false ∧ ¬ k < m) ∨ (k < m ∧ callAt g m k = g k ∧ A < B ∧ ao = some ⟨A, 0, none⟩ ∧ w.cell? ⟨A, k, none⟩ = some (.bool (g k))) := by
  unfold callAt
  by_cases hkm : k < m
  · have hl := h.loc (by omega)
    exact .inr ⟨hkm, by simp [hkm], hl.1, hl.2, h.cell k hkm⟩
  · exact .inl ⟨by simp [hkm], hkm⟩

theorem ret_int' {k : IntKind} {a b : Int} (h : a = b) : Ending.returned (.int k a) = .returned (.int k b) := by rw [h]

set_option maxHeartbeats 1000000 in
theorem callCount_any (co ao : Option Addr) (B A n cn m cm : Nat) (g : Nat → Bool) (w : World) (hn : n ≤ 65536) (_hm : m ≤ 65536) (hg : HasV B w ao A m (fun i => .bool (g i))) :
    Calls Try.prog 14 #[.slice co n cn, .slice ao m cm] w fun e w' => e = .returned (.int .i64 (callsTo g m n : Nat)) ∧ w' = w := by
  have HG : Hid (HasV B w ao A m (fun i => .bool (g i))) := hg
  clear hg
  go_enter Try.func14, Try.ntmps14
  go_wp2
  go_loop [5, 6] (fun c i => ∃ k : Nat, k ≤ n ∧ i = .int .i64 k ∧ c = .int .i64 (callsTo g m k : Nat)) (fun _ i => n - (intOf i).toNat)
  case atStart => exact ⟨0, by omega, rfl, rfl⟩
  case round =>
    obtain ⟨k, hk, rfl, rfl⟩ := hrel
    have hcl := callsTo_le g m k
    have HE : Hid (callsTo g m (k + 1) = callsTo g m k + (if callAt g m k then 1 else 0)) := rfl
    by_cases hlt : k < n
    · rcases call_cases HG.out k with ⟨h1, h2⟩ | ⟨hkm, h1, _, hao, hca⟩
      · have HE2 : Hid (callsTo g m (k + 1) = callsTo g m k) := by show callsTo g m (k + 1) = callsTo g m k; rw [HE.out, h1]; rfl
        clear h1 HE
        generalize callsTo g m k = c at *
        go_wp2
        go_round
        case rel => exact ⟨k + 1, by omega, by go_num, by rw [HE2.out]⟩
        case measure => simp [intOf]; omega
      · subst hao
        cases hgk : g k with
        | true =>
          rw [hgk] at hca h1
          have HE2 : Hid (callsTo g m (k + 1) = callsTo g m k + 1) := by show callsTo g m (k + 1) = callsTo g m k + 1; rw [HE.out, h1]; rfl
          clear h1 HE hgk
          generalize callsTo g m k = c at *
          go_wp2
          go_round
          case rel => exact ⟨k + 1, by omega, by go_num, by rw [HE2.out]; go_num⟩
          case measure => simp [intOf]; omega
        | false =>
          rw [hgk] at hca h1
          have HE2 : Hid (callsTo g m (k + 1) = callsTo g m k) := by show callsTo g m (k + 1) = callsTo g m k; rw [HE.out, h1]; rfl
          clear h1 HE hgk
          generalize callsTo g m k = c at *
          go_wp2
          go_round
          case rel => exact ⟨k + 1, by omega, by go_num, by rw [HE2.out]⟩
          case measure => simp [intOf]; omega
    · obtain rfl : k = n := by omega
      clear HE
      go_wp2
      go_ret
      exact ⟨rfl, rfl⟩

/-- The runs behind one more round, way by way. -/
theorem runs_step (f : Nat → List UInt8) (g : Nat → Bool) (m k : Nat) (e : Bool) (he : (f k).isEmpty = e) (r : Nat) (o : Bool) (h : runsTo f g m k = (r, o)) :
    runsTo f g m (k + 1) = (if !e && !o then r + 1 else r, if callAt g m k then false else (!e || o)) := by
  simp only [runsTo, he, h]

set_option maxHeartbeats 2000000 in
theorem textRuns_any (co ao : Option Addr) (B C A n cn m cm : Nat) (f : Nat → ByteArray) (g : Nat → Bool) (w : World) (hn : n ≤ 65536) (_hm : m ≤ 65536) (hf : HasV B w co C n (fun i => .string (f i))) (hg : HasV B w ao A m (fun i => .bool (g i))) :
    Calls Try.prog 15 #[.slice co n cn, .slice ao m cm] w fun e w' => e = .returned (.int .i64 ((runsTo (bytesOf f) g m n).1 : Nat)) ∧ w' = w := by
  have HG : Hid (HasV B w ao A m (fun i => .bool (g i))) := hg
  have HF : Hid (HasV B w co C n (fun i => .string (f i))) := hf
  clear hg hf
  go_enter Try.func15, Try.ntmps15
  go_wp2
  go_loop [5, 6, 7] (fun c ov i => ∃ (k r : Nat) (o : Bool), k ≤ n ∧ i = .int .i64 k ∧ c = .int .i64 r ∧ ov = .bool o ∧ r ≤ k ∧ Hid (runsTo (bytesOf f) g m k = (r, o))) (fun _ _ i => n - (intOf i).toNat)
  case atStart => exact ⟨0, 0, false, by omega, rfl, rfl, rfl, by omega, rfl⟩
  case round =>
    obtain ⟨k, r, o, hk, rfl, rfl, rfl, hr, HR⟩ := hrel
    by_cases hlt : k < n
    · obtain ⟨_, rfl⟩ := HF.out.loc (by omega)
      have hck := HF.out.cell k hlt
      obtain ⟨ev, hev⟩ : ∃ ev, (f k).toList.isEmpty = ev := ⟨_, rfl⟩
      have HS : Hid (runsTo (bytesOf f) g m (k + 1) = (if !ev && !o then r + 1 else r, if callAt g m k then false else (!ev || o))) :=
        runs_step (bytesOf f) g m k ev (by rw [← hev, ByteArray.toList_eq]; rfl) r o HR.out
      clear HR
      rcases call_cases HG.out k with ⟨h1, h2⟩ | ⟨hkm, h1, _, hao, hca⟩
      · rw [h1] at HS
        clear h1
        cases ev <;> cases o
        all_goals
          go_wp2
          go_round
          case rel => exact ⟨k + 1, _, _, by omega, by go_num, by first | rfl | go_num, rfl, by simp; omega, HS⟩
          case measure => simp [intOf]; omega
      · subst hao
        cases hgk : g k with
        | true =>
          rw [hgk] at hca h1
          rw [h1] at HS
          clear h1 hgk
          cases ev <;> cases o
          all_goals
            go_wp2
            go_round
            case rel => exact ⟨k + 1, _, _, by omega, by go_num, by first | rfl | go_num, rfl, by simp; omega, HS⟩
            case measure => simp [intOf]; omega
        | false =>
          rw [hgk] at hca h1
          rw [h1] at HS
          clear h1 hgk
          cases ev <;> cases o
          all_goals
            go_wp2
            go_round
            case rel => exact ⟨k + 1, _, _, by omega, by go_num, by first | rfl | go_num, rfl, by simp; omega, HS⟩
            case measure => simp [intOf]; omega
    · obtain rfl : k = n := by omega
      go_wp2
      go_ret
      exact ⟨ret_int' (by rw [HR.out]), rfl⟩

end Go.Proofs.Qxb6001177a
