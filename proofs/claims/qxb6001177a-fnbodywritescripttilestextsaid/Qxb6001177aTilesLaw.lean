import Derived.Test.Qxb6001177aTilesWalk
import Derived.Test.Qxb6001177aConcat
import Derived.Test.Qxb6001177aCounts
import Derived.Test.Qxb6001177aMeasure
namespace Go.Proofs.Qxb6001177a
open Go.RowKit Go.Deep

theorem KeepsB.below {w w' : World} (hb : Below w.heap.size w w') : KeepsB w w' := fun k _ _ _ h _ => (hb.block k (lt_of_heap h)).trans h

/-- A body stands while new memory is made. -/
theorem Body.later {B y t : Nat} {w0 w w' : World} {ps : List PartD} {l : List UInt8} (h : Body B y t w0 ps l w) (hb : Below w.heap.size w w') : Body B y t w0 ps l w' := by
  obtain ⟨ao, cap, m, h1, h2⟩ := h.blk
  refine ⟨h.hy, ⟨ao, cap, m, (hb.block y (lt_of_heap h1)).trans h1, h2.1, ?_⟩, builder_keep (KeepsB.below hb) h.bld, h.bel.trans (hb.mono (Nat.le_trans h.hB h.bel.size)), h.hB⟩
  rcases h2.2 with h3 | ⟨g, cap', cur, hv, hg, hh, r⟩
  · exact .inl h3
  · exact .inr ⟨g, cap', cur, hv, hg, (hb.block g (lt_of_heap hh)).trans hh, r⟩

theorem cloneS_any (co : Option Addr) (b off n cn : Nat) (f : Nat → ByteArray) (w : World) (hl : n ≤ 1048576) (hnil : co = none → n = 0 ∧ cn = 0) (h : HasO w co b off n (fun i => .string (f i))) :
    Calls Try.prog 9 #[.slice co n cn] w fun e w' => (∃ co' C, e = .returned (.slice co' n n) ∧ HasV w'.heap.size w' co' C n (fun i => .string (f i))) ∧ Below w.heap.size w w' := by
  cases co with
  | none =>
    obtain ⟨rfl, rfl⟩ := hnil rfl
    exact (cloneS_nil w).mono fun e w' ⟨he, hw⟩ => ⟨⟨none, 0, he, fun h => by omega, fun i hi => by omega⟩, by rw [hw]; exact Below.refl _ _⟩
  | some ad => exact (cloneS_some ad b off n cn f w hl h).mono fun e w' ⟨he, hr, hb⟩ => ⟨⟨_, w.heap.size, he, fun _ => ⟨hr.lt, rfl⟩, fun i hi => hr.cell hi⟩, hb⟩

theorem cloneB_any (ao : Option Addr) (b off n cn : Nat) (g : Nat → Bool) (w : World) (hl : n ≤ 1048576) (hnil : ao = none → n = 0 ∧ cn = 0) (h : HasO w ao b off n (fun i => .bool (g i))) :
    Calls Try.prog 10 #[.slice ao n cn] w fun e w' => (∃ ao' A, e = .returned (.slice ao' n n) ∧ HasV w'.heap.size w' ao' A n (fun i => .bool (g i))) ∧ Below w.heap.size w w' := by
  cases ao with
  | none =>
    obtain ⟨rfl, rfl⟩ := hnil rfl
    exact (cloneB_nil w).mono fun e w' ⟨he, hw⟩ => ⟨⟨none, 0, he, fun h => by omega, fun i hi => by omega⟩, by rw [hw]; exact Below.refl _ _⟩
  | some ad => exact (cloneB_some ad b off n cn g w hl h).mono fun e w' ⟨he, hr, hb⟩ => ⟨⟨_, w.heap.size, he, fun _ => ⟨hr.lt, rfl⟩, fun i hi => hr.cell hi⟩, hb⟩

set_option maxHeartbeats 2000000 in
theorem tiles_law (co ao : Option Addr) (b off n cn b' off' m cm : Nat) (f : Nat → ByteArray) (g : Nat → Bool) (w : World) (hn : n ≤ maxLen) (hm : m ≤ maxLen)
    (hcn : co = none → n = 0 ∧ cn = 0) (han : ao = none → m = 0 ∧ cm = 0) (hf : HasO w co b off n (fun i => .string (f i))) (hg : HasO w ao b' off' m (fun i => .bool (g i))) :
    Calls Try.prog 3 #[.slice co n cn, .slice ao m cm] w fun e w' => e = .returned (.bool true) ∧ Below w.heap.size w w' := by
  have HZ : Hid (Calls Try.prog 7 #[.slice co n cn, .slice ao m cm] w fun e w' => BoolOut e ∧ w' = w) := zzBytesTiles_any co ao b off n cn m cm f w hn hm hf
  have HF : Hid (HasO w co b off n (fun i => .string (f i))) := hf
  have HG : Hid (HasO w ao b' off' m (fun i => .bool (g i))) := hg
  have HCN : Hid (co = none → n = 0 ∧ cn = 0) := hcn
  have HAN : Hid (ao = none → m = 0 ∧ cm = 0) := han
  clear hf hg hcn han
  unfold maxLen at hn hm
  by_cases h1 : (65536 : Int) < n
  · go_enter Try.func3, Try.ntmps3
    go_wp2_with fail
    refine HZ.out.mono ?_
    rintro e w' ⟨⟨r, rfl⟩, rfl⟩
    cases r
    all_goals
      go_wp2
      go_ret
      exact ⟨rfl, Below.refl _ _⟩
  by_cases h2 : (65536 : Int) < m
  · go_enter Try.func3, Try.ntmps3
    go_wp2_with fail
    refine HZ.out.mono ?_
    rintro e w' ⟨⟨r, rfl⟩, rfl⟩
    cases r
    all_goals
      go_wp2
      go_ret
      exact ⟨rfl, Below.refl _ _⟩
  go_enter Try.func3, Try.ntmps3
  go_wp2_with fail
  refine HZ.out.mono ?_
  rintro e w' ⟨⟨r, rfl⟩, rfl⟩
  cases r
  · go_wp2
    go_ret
    exact ⟨rfl, Below.refl _ _⟩
  clear HZ
  go_wp2_with fail
  refine (bodyBytes_any co ao b off n cn m cm f _ (by omega) (by omega) HF.out).mono ?_
  rintro e w' ⟨⟨r, rfl, hr0, hr1, hcat⟩, rfl⟩
  by_cases h3 : 1048576 < r
  · go_wp2
    go_ret
    exact ⟨rfl, Below.refl _ _⟩
  have HL : Hid ((catTo (bytesOf f) n).length ≤ 1048576) := hcat (by omega)
  clear hcat
  go_wp2_with fail
  refine (cloneS_any co b off n cn f _ (by omega) HCN.out HF.out).mono ?_
  rintro e w1 ⟨⟨co1, C, rfl, V1⟩, b1⟩
  have HG1 : Hid (HasO w1 ao b' off' m (fun i => .bool (g i))) := HG.out.later b1
  have HV1 : Hid (HasV w1.heap.size w1 co1 C n (fun i => .string (f i))) := V1
  have HB1 : Hid (Below w'.heap.size w' w1) := b1
  clear V1 b1 HF HG HCN
  go_wp2_with fail
  refine (cloneB_any ao b' off' m cm g _ (by omega) HAN.out HG1.out).mono ?_
  rintro e w2 ⟨⟨ao2, A, rfl, V2⟩, b2⟩
  have HV2 : Hid (HasV w2.heap.size w2 co1 C n (fun i => .string (f i))) := HV1.out.later (Nat.le_refl _) b2
  have HW2 : Hid (HasV w2.heap.size w2 ao2 A m (fun i => .bool (g i))) := V2
  have HB2 : Hid (Below w'.heap.size w' w2) := HB1.out.trans (b2.mono HB1.out.size)
  clear V2 b2 HV1 HB1 HG1 HAN
  go_wp2_with fail
  refine (build_any co1 ao2 C A n n m m f g _ (by omega) (by omega) HL.out HV2.out HW2.out).mono ?_
  rintro e w3 ⟨y, t, σ, rfl, hat, hqs, hbody⟩
  have HB3 : Hid (Below w2.heap.size w2 w3) := hbody.bel
  have HV3 : Hid (HasV w3.heap.size w3 co1 C n (fun i => .string (f i))) := HV2.out.later (Nat.le_refl _) hbody.bel
  have HW3 : Hid (HasV w3.heap.size w3 ao2 A m (fun i => .bool (g i))) := HW2.out.later (Nat.le_refl _) hbody.bel
  have HA : Hid (At (bytesOf f) g m n σ) := hat
  have HBD : Hid (Body w2.heap.size y t w2 σ.parts σ.l w3) := hbody
  clear hat hbody HV2 HW2
  go_wp2_with fail
  refine (concat_any co1 C n n f _ (by omega) HL.out HV3.out).mono ?_
  rintro e w4 ⟨rfl, b4⟩
  have HBD4 : Hid (Body w2.heap.size y t w2 σ.parts σ.l w4) := HBD.out.later b4
  have HV4 : Hid (HasV w4.heap.size w4 co1 C n (fun i => .string (f i))) := HV3.out.later (Nat.le_refl _) b4
  have HW4 : Hid (HasV w4.heap.size w4 ao2 A m (fun i => .bool (g i))) := HW3.out.later (Nat.le_refl _) b4
  clear b4 HBD HV3 HW3 HB3
  generalize hS : (⟨(catTo (bytesOf f) n).toArray⟩ : ByteArray) = s
  have HS : Hid ((⟨(catTo (bytesOf f) n).toArray⟩ : ByteArray) = s) := hS
  clear hS
  go_wp2_with fail
  refine (callCount_any co1 ao2 w4.heap.size A n n m m g _ (by omega) (by omega) HW4.out).mono ?_
  rintro e w5 ⟨rfl, rfl⟩
  go_wp2_with fail
  refine (textRuns_any co1 ao2 w5.heap.size C A n n m m f g _ (by omega) (by omega) HV4.out HW4.out).mono ?_
  rintro e w6 ⟨rfl, rfl⟩
  have hpn : σ.parts.length ≤ 1048576 := by have := St.parts_le (2 * n) hqs; omega
  have HT : Hid (Calls Try.prog 12 #[.pointer (some ⟨y, 0, none⟩), .string s, .int .i64 (callsTo g m n : Nat), .int .i64 ((runsTo (bytesOf f) g m n).1 : Nat)] w6 fun e w' => e = .returned (.bool true) ∧ Below w2.heap.size w2 w') := by
    have hl : σ.l = catTo (bytesOf f) n := HA.out.text
    have hsc := HA.out.scan
    rw [← hl] at hsc
    have := tiles_any w2.heap.size y t w2 σ.parts σ.l _ _ _ w6 HBD4.out hpn hsc
    rw [hl, HS.out] at this
    exact this
  clear hpn HBD4 HA HV4 HW4 HL HS
  generalize callsTo g m n = c1 at HT ⊢
  generalize (runsTo (bytesOf f) g m n).1 = c2 at HT ⊢
  go_wp2_with fail
  refine HT.out.mono ?_
  rintro e w7 ⟨rfl, b7⟩
  have HB7 : Hid (Below w'.heap.size w' w7) := HB2.out.trans (b7.mono HB2.out.size)
  clear b7 HB2 HT
  go_wp2
  go_ret
  exact ⟨rfl, HB7.out⟩

end Go.Proofs.Qxb6001177a
