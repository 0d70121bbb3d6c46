import Derived.Test.Qxb6001177aBuild
namespace Go.Proofs.Qxb6001177a
open Go.RowKit Go.Deep

/-- A slice that reads as n values v 0, v 1, ..: in a row at the head of block C (where there is one), below B. -/
structure HasV (B : Nat) (w : World) (co : Option Addr) (C n : Nat) (v : Nat → Value) : Prop where
  loc : 0 < n → C < B ∧ co = some ⟨C, 0, none⟩
  cell : ∀ i, i < n → w.cell? ⟨C, i, none⟩ = some (v i)

/-- The bytes of the strings. -/
def bytesOf (f : Nat → ByteArray) : Nat → List UInt8 := fun i => (f i).data.toList

theorem catTo_succ_len (f : Nat → ByteArray) (k : Nat) : (catTo (bytesOf f) (k + 1)).length = (catTo (bytesOf f) k).length + (f k).size := by
  simp only [catTo, List.length_append, bytesOf, Array.length_toList]
  rfl

theorem catTo_mono (f : Nat → ByteArray) {k n : Nat} (h : k ≤ n) : (catTo (bytesOf f) k).length ≤ (catTo (bytesOf f) n).length := by
  induction n with
  | zero => have : k = 0 := by omega
            subst this; exact Nat.le_refl _
  | succ n ih =>
    by_cases e : k = n + 1
    · subst e; exact Nat.le_refl _
    · have := ih (by omega)
      rw [catTo_succ_len]
      omega

theorem empty_eq (s : ByteArray) : s.data.isEmpty = s.toList.isEmpty := by
  rw [ByteArray.toList_eq]
  simp

set_option maxHeartbeats 2000000 in
theorem build_any (co ao : Option Addr) (C A n cn m cm : Nat) (f : Nat → ByteArray) (g : Nat → Bool) (w : World) (hn : n ≤ 65536) (hm : m ≤ 65536) (hl : (catTo (bytesOf f) n).length ≤ 1048576)
    (hf : HasV w.heap.size w co C n (fun i => .string (f i))) (hg : HasV w.heap.size w ao A m (fun i => .bool (g i))) :
    Calls Try.prog 11 #[.slice co n cn, .slice ao m cm] w fun e w' => ∃ y t σ, e = .returned (.tuple #[.pointer (some ⟨y, 0, none⟩), .bool true]) ∧ At (bytesOf f) g m n σ ∧ σ.qs.length ≤ 2 * n ∧ Body w.heap.size y t w σ.parts σ.l w' := by
  have HF : Hid (HasV w.heap.size w co C n (fun i => .string (f i))) := hf
  have HG : Hid (HasV w.heap.size w ao A m (fun i => .bool (g i))) := hg
  clear hf hg
  go_enter Try.func11, Try.ntmps11
  go_wp2_with fail
  refine (newBody w).mono ?_
  rintro e w1 ⟨y, t, rfl, hb1⟩
  have HB1 : Hid (Body w.heap.size y t w [] [] w1) := hb1
  clear hb1
  go_wp2_with fail
  go_loopw [7, 8] (fun gd i wr => ∃ (k : Nat) (σ : St), k ≤ n ∧ i = .int .i64 k ∧ gd = .bool true ∧ Hid (At (bytesOf f) g m k σ) ∧ σ.qs.length ≤ 2 * k ∧ Hid (Body w.heap.size y t w σ.parts σ.l wr)) (fun _ i _ => n - (intOf i).toNat)
  case atStart => exact ⟨0, ⟨[], none, []⟩, by omega, rfl, rfl, At.zero _ _ _, by simp, HB1.out⟩
  case round =>
    obtain ⟨k, σ, hk, rfl, rfl, HA, hq, HB⟩ := hrel
    clear HB1
    by_cases hlt : k < n
    · obtain ⟨hCB, rfl⟩ := HF.out.loc (by omega)
      have hck : wr.cell? ⟨C, k, none⟩ = some (.string (f k)) := (HB.out.bel.cell (p := ⟨C, k, none⟩) hCB).trans (HF.out.cell k hlt)
      have hi0 : (0 : Int) ≤ (k : Int) := by omega
      have hi1 : (k : Int) < (n : Int) := by omega
      have hlen : σ.l.length + (f k).size ≤ 1048576 := by
        have h1 := catTo_succ_len f k
        have h2 := catTo_mono f (show k + 1 ≤ n by omega)
        have h3 : σ.l = catTo (bytesOf f) k := HA.out.text
        rw [h3]
        omega
      have hlast : σ.op = none → Last σ.qs := fun h => (HA.out.shut h).2.2
      obtain ⟨r, hr⟩ : ∃ r, (f k).toList.isEmpty = r := ⟨_, rfl⟩
      have HZ : Hid (∀ wx : World, Body w.heap.size y t w σ.parts σ.l wx → Calls Try.prog 17 #[.pointer (some ⟨y, 0, none⟩), .string (f k)] wx fun e w' => e = .returned (.bool (!r)) ∧ Body w.heap.size y t w (σ.write (bytesOf f k)).parts (σ.write (bytesOf f k)).l w') := fun wx hx => by
        have h1 := zzWrite_any w.heap.size y t w σ (f k) wx hx hlast (by omega) hlen
        rw [← ByteArray.toList_eq, hr, ByteArray.toList_eq] at h1
        exact h1
      clear hlen hlast
      have fin : (callAt g m k = false ∧ (k < m → A < w.heap.size ∧ ao = some ⟨A, 0, none⟩ ∧ g k = false)) ∨ (callAt g m k = true ∧ k < m ∧ A < w.heap.size ∧ ao = some ⟨A, 0, none⟩ ∧ g k = true) := by
        unfold callAt
        by_cases hkm : k < m
        · have hl := HG.out.loc (by omega)
          cases hgk : g k with
          | true => exact .inr ⟨by simp [hkm], hkm, hl.1, hl.2, rfl⟩
          | false => exact .inl ⟨by simp, fun _ => ⟨hl.1, hl.2, rfl⟩⟩
        · exact .inl ⟨by simp [hkm], fun h => absurd h hkm⟩
      have FIN : Hid ((callAt g m k = false ∧ (k < m → A < w.heap.size ∧ ao = some ⟨A, 0, none⟩ ∧ g k = false)) ∨ (callAt g m k = true ∧ k < m ∧ A < w.heap.size ∧ ao = some ⟨A, 0, none⟩ ∧ g k = true)) := fin
      clear fin
      have HBD : Hid (∀ wx : World, Body w.heap.size y t w (σ.write (bytesOf f k)).parts (σ.write (bytesOf f k)).l wx → wx.cell? ⟨C, k, none⟩ = some (.string (f k))) := fun wx hx => (hx.bel.cell (p := ⟨C, k, none⟩) hCB).trans (HF.out.cell k hlt)
      cases r
      · go_wp2_with fail
        go_region_held3 (fun w' => w'.cell? ⟨C, k, none⟩ = some (.string (f k)))
          (first | go_keep | exact HBD.out _ hb2)
          ((go_at_call 17; refine (HZ.out _ ?_).mono ?_; exact HB.out.drew; rintro e w2 ⟨rfl, hb2⟩))
        have HB2 : Hid (Body w.heap.size y t w (σ.write (bytesOf f k)).parts (σ.write (bytesOf f k)).l w2) := hb2
        have hq2 : (σ.write (bytesOf f k)).qs.length ≤ 2 * k := by rw [write_qs]; exact hq
        clear hb2 HB hck HZ hq HBD
        rcases FIN.out with ⟨hcall, hno⟩ | ⟨hcall, hkm, hAB, hao, hgk⟩
        · have HA2 : Hid (At (bytesOf f) g m (k + 1) (σ.write (bytesOf f k))) := HA.out.no hcall
          clear HA hcall FIN
          by_cases hkm : k < m
          · obtain ⟨hAB, hao, hgk⟩ := hno hkm
            have hca : w2.cell? ⟨A, k, none⟩ = some (.bool (g k)) := (HB2.out.bel.cell (p := ⟨A, k, none⟩) hAB).trans (HG.out.cell k hkm)
            subst hao
            rw [hgk] at hca
            clear hno hgk
            go_wp2
            go_roundw
            case rel => exact ⟨k + 1, _, by omega, by go_num, rfl, HA2, by omega, HB2⟩
            case measure => simp [intOf]; omega
          · clear hno
            go_wp2
            go_roundw
            case rel => exact ⟨k + 1, _, by omega, by go_num, rfl, HA2, by omega, HB2⟩
            case measure => simp [intOf]; omega
        · have HA2 : Hid (∀ c, At (bytesOf f) g m (k + 1) ((σ.write (bytesOf f k)).call c)) := fun c => HA.out.yes hcall c
          have hca : w2.cell? ⟨A, k, none⟩ = some (.bool (g k)) := (HB2.out.bel.cell (p := ⟨A, k, none⟩) hAB).trans (HG.out.cell k hkm)
          subst hao
          rw [hgk] at hca
          clear HA hcall hgk FIN
          have hpl : (σ.write (bytesOf f k)).parts.length ≤ 1048576 := by
            have := St.parts_le (σ := σ.write (bytesOf f k)) (2 * k) hq2
            omega
          have HC : Hid (Calls Try.prog 25 #[.pointer (some ⟨y, 0, none⟩), .int .i64 2] w2 fun e w' => e = .returned (.tuple #[]) ∧ ∃ c, Body w.heap.size y t w ((σ.write (bytesOf f k)).parts ++ [⟨(σ.write (bytesOf f k)).l.length, (σ.write (bytesOf f k)).l.length, some c⟩]) (σ.write (bytesOf f k)).l w') := appendCall w.heap.size y t w _ _ w2 HB2.out hpl
          clear hpl
          go_wp2_with fail
          refine HC.out.mono ?_
          rintro e w3 ⟨rfl, c, hb3⟩
          have HB3 : Hid (Body w.heap.size y t w ((σ.write (bytesOf f k)).call c).parts ((σ.write (bytesOf f k)).call c).l w3) := by simpa [Hid, St.call, St.parts] using hb3
          have hq3 := call_qs (σ.write (bytesOf f k)) c
          clear hb3 HC hca
          go_wp2
          go_roundw
          case rel => exact ⟨k + 1, _, by omega, by go_num, rfl, HA2.out c, by omega, HB3⟩
          case measure => simp [intOf]; omega
      · go_wp2_with fail
        go_region_held3 (fun w' => w'.cell? ⟨C, k, none⟩ = some (.string (f k)))
          (first | go_keep | exact HBD.out _ hb2)
          ((go_at_call 17; refine (HZ.out _ ?_).mono ?_; exact HB.out.drew; rintro e w2 ⟨rfl, hb2⟩))
        have HB2 : Hid (Body w.heap.size y t w (σ.write (bytesOf f k)).parts (σ.write (bytesOf f k)).l w2) := hb2
        have hq2 : (σ.write (bytesOf f k)).qs.length ≤ 2 * k := by rw [write_qs]; exact hq
        clear hb2 HB hck HZ hq HBD
        rcases FIN.out with ⟨hcall, hno⟩ | ⟨hcall, hkm, hAB, hao, hgk⟩
        · have HA2 : Hid (At (bytesOf f) g m (k + 1) (σ.write (bytesOf f k))) := HA.out.no hcall
          clear HA hcall FIN
          by_cases hkm : k < m
          · obtain ⟨hAB, hao, hgk⟩ := hno hkm
            have hca : w2.cell? ⟨A, k, none⟩ = some (.bool (g k)) := (HB2.out.bel.cell (p := ⟨A, k, none⟩) hAB).trans (HG.out.cell k hkm)
            subst hao
            rw [hgk] at hca
            clear hno hgk
            go_wp2
            go_roundw
            case rel => exact ⟨k + 1, _, by omega, by go_num, rfl, HA2, by omega, HB2⟩
            case measure => simp [intOf]; omega
          · clear hno
            go_wp2
            go_roundw
            case rel => exact ⟨k + 1, _, by omega, by go_num, rfl, HA2, by omega, HB2⟩
            case measure => simp [intOf]; omega
        · have HA2 : Hid (∀ c, At (bytesOf f) g m (k + 1) ((σ.write (bytesOf f k)).call c)) := fun c => HA.out.yes hcall c
          have hca : w2.cell? ⟨A, k, none⟩ = some (.bool (g k)) := (HB2.out.bel.cell (p := ⟨A, k, none⟩) hAB).trans (HG.out.cell k hkm)
          subst hao
          rw [hgk] at hca
          clear HA hcall hgk FIN
          have hpl : (σ.write (bytesOf f k)).parts.length ≤ 1048576 := by
            have := St.parts_le (σ := σ.write (bytesOf f k)) (2 * k) hq2
            omega
          have HC : Hid (Calls Try.prog 25 #[.pointer (some ⟨y, 0, none⟩), .int .i64 2] w2 fun e w' => e = .returned (.tuple #[]) ∧ ∃ c, Body w.heap.size y t w ((σ.write (bytesOf f k)).parts ++ [⟨(σ.write (bytesOf f k)).l.length, (σ.write (bytesOf f k)).l.length, some c⟩]) (σ.write (bytesOf f k)).l w') := appendCall w.heap.size y t w _ _ w2 HB2.out hpl
          clear hpl
          go_wp2_with fail
          refine HC.out.mono ?_
          rintro e w3 ⟨rfl, c, hb3⟩
          have HB3 : Hid (Body w.heap.size y t w ((σ.write (bytesOf f k)).call c).parts ((σ.write (bytesOf f k)).call c).l w3) := by simpa [Hid, St.call, St.parts] using hb3
          have hq3 := call_qs (σ.write (bytesOf f k)) c
          clear hb3 HC hca
          go_wp2
          go_roundw
          case rel => exact ⟨k + 1, _, by omega, by go_num, rfl, HA2.out c, by omega, HB3⟩
          case measure => simp [intOf]; omega
    · obtain rfl : k = n := by omega
      go_wp2
      go_ret2
      exact ⟨y, t, σ, rfl, HA.out, hq, HB.out⟩
end Go.Proofs.Qxb6001177a
