import Derived.Test.Qxb6001041aWalks
namespace Go.Proofs.Qxb6001041a
open Go.RowKit Go.Deep

theorem hide {p : Prop} (h : p) : Hid p := h

/-- Behind the copy, the slice of the one name lies in a block of its own: it holds that name. -/
theorem one_true (s : ByteArray) : hasB (fun _ => s) 1 s = true := hasB_true (k := 0) (by omega) rfl

theorem zzOneOf_one (s : ByteArray) (w1 : World) :
    Calls Try.prog 9 #[.string s, .slice (some ⟨w1.heap.size, 0, none⟩) 1 1] (w1.alloc (.cells #[.string s] 9)) fun e w' => e = .returned (.bool true) ∧ w' = w1.alloc (.cells #[.string s] 9) := by
  have h := zzOneOf_any w1.heap.size 0 1 1 (fun _ => s) s (w1.alloc (.cells #[.string s] 9)) (by omega) (fun i hi => by
    obtain rfl : i = 0 := by omega
    simp)
  rwa [one_true] at h

/-- Each string of the list is one of the list. -/
theorem zzOneOf_elem (b len : Nat) (f : Nat → ByteArray) (k : Nat) (w : World) (hl : len ≤ 1024) (hk : k < len) (hrow : w.rowIs b 9 len (fun i => .string (f i))) :
    Calls Try.prog 9 #[.string (f k), .slice (some ⟨b, 0, none⟩) len len] w fun e w' => e = .returned (.bool true) ∧ w' = w := by
  have h := zzOneOf_any b 0 len len f (f k) w (by omega) (fun i hi => by rw [Nat.zero_add]; exact hrow.cell hi)
  rwa [hasB_true hk rfl] at h

/-- The law at names with at least one string. -/
theorem law_some (s : ByteArray) (b off len cap : Nat) (f : Nat → ByteArray) (w : World) (hs : s.size ≤ maxLen) (hl : len ≤ maxLen) (hpos : 0 < len) (hb : b < w.heap.size)
    (hc : ∀ i, i < len → w.cell? ⟨b, off + i, none⟩ = some (.string (f i))) :
    Calls Try.prog 4 #[.string s, .slice (some ⟨b, off, none⟩) len cap] w fun e w' => e = .returned (.bool true) ∧ Below w.heap.size w w' := by
  have hz := zzBytes_any s b off len cap f w hs hl hc
  have Hz := hide hz
  clear hz
  unfold maxLen at hs hl
  by_cases h1 : (1048576 : Int) < s.size
  · go_enter Try.func4, Try.ntmps4
    go_wp2_with fail
    refine Hz.out.mono ?_
    rintro e w' ⟨⟨r, rfl⟩, rfl⟩
    cases r
    all_goals
      go_wp2
      go_ret
      exact ⟨rfl, Below.refl _ _⟩
  by_cases h2 : (1024 : Int) < len
  · go_enter Try.func4, Try.ntmps4
    go_wp2_with fail
    refine Hz.out.mono ?_
    rintro e w' ⟨⟨r, rfl⟩, rfl⟩
    cases r
    all_goals
      go_wp2
      go_ret
      exact ⟨rfl, Below.refl _ _⟩
  go_enter Try.func4, Try.ntmps4
  go_wp2_with fail
  refine Hz.out.mono ?_
  rintro e w' ⟨⟨r, rfl⟩, rfl⟩
  cases r
  · go_wp2
    go_ret
    exact ⟨rfl, Below.refl _ _⟩
  go_wp2_with fail
  refine (namesBytes_any b off len cap f _ (by omega) hc).mono ?_
  rintro e w' ⟨⟨r, hr0, hr1, rfl⟩, rfl⟩
  by_cases h3 : 1048576 < r
  · go_wp2
    go_ret
    exact ⟨rfl, Below.refl _ _⟩
  by_cases h4 : 1048576 < s.size + r
  · go_wp2
    go_ret
    exact ⟨rfl, Below.refl _ _⟩
  go_wp2_with fail
  refine (copyNames_any b off len cap f _ (by omega) hb hc).mono ?_
  rintro e w1 ⟨rfl, hrow, hbel⟩
  have hne : ((len : Int) == 0) = false := by simp; omega
  go_wp2_with fail
  refine (zzOneOf_one s w1).mono ?_
  rintro e w2 ⟨rfl, hw2⟩
  have hrow2 : w2.rowIs w'.heap.size 9 len (fun i => .string (f i)) := by rw [hw2]; exact hrow.alloc _
  have hbel2 : Below w'.heap.size w' w2 := by rw [hw2]; exact hbel.alloc hbel.size _
  clear hw2 hrow hbel
  go_wp2_with fail
  go_loop [6] (fun i => ∃ k : Nat, k ≤ len ∧ i = .int .i64 k) (fun i => len - (intOf i).toNat)
  case atStart => exact ⟨0, Nat.zero_le _, rfl⟩
  case round =>
    obtain ⟨k, hk, rfl⟩ := hrel
    by_cases hlt : k < len
    · have hck := hrow2.cell hlt
      go_wp2_with fail
      refine (zzOneOf_elem w'.heap.size len f k _ (by omega) hlt hrow2).mono ?_
      rintro e w3 ⟨rfl, rfl⟩
      go_wp2
      go_round
      case rel => exact ⟨k + 1, by omega, by go_num⟩
      case measure => simp [intOf]; omega
    · go_wp2
      go_ret
      exact ⟨rfl, hbel2⟩

/-- The law at no names. -/
theorem law_none (s : ByteArray) (a : Option Addr) (cap : Nat) (w : World) (hs : s.size ≤ maxLen) (ha : a = none → cap = 0) :
    Calls Try.prog 4 #[.string s, .slice a 0 cap] w fun e w' => e = .returned (.bool true) ∧ Below w.heap.size w w' := by
  have hz := zzBytes_none s a cap w hs
  have Hz := hide hz
  clear hz
  unfold maxLen at hs
  by_cases h1 : (1048576 : Int) < s.size
  · go_enter Try.func4, Try.ntmps4
    go_wp2_with fail
    refine Hz.out.mono ?_
    rintro e w' ⟨⟨r, rfl⟩, rfl⟩
    cases r
    all_goals
      go_wp2
      go_ret
      exact ⟨rfl, Below.refl _ _⟩
  have hcopy : ∀ w : World, Calls Try.prog 8 #[.slice a 0 cap] w fun e w' => (∃ a' : Option Addr, e = .returned (.slice a' 0 0)) ∧ Below w.heap.size w w' := by
    intro w
    cases a with
    | none =>
      obtain rfl := ha rfl
      exact (copyNames_nil w).mono fun e w' ⟨he, hw⟩ => ⟨⟨_, he⟩, hw ▸ Below.refl _ _⟩
    | some ad => exact (copyNames_empty ad cap w).mono fun e w' ⟨he, hw⟩ => ⟨⟨_, he⟩, hw⟩
  have Hc := hide hcopy
  clear hcopy ha
  go_enter Try.func4, Try.ntmps4
  go_wp2_with fail
  refine Hz.out.mono ?_
  rintro e w' ⟨⟨r, rfl⟩, rfl⟩
  cases r
  · go_wp2
    go_ret
    exact ⟨rfl, Below.refl _ _⟩
  go_wp2_with fail
  refine (namesBytes_none a cap _).mono ?_
  rintro e w' ⟨⟨r, hr0, hr1, rfl⟩, rfl⟩
  by_cases h3 : 1048576 < r
  · go_wp2
    go_ret
    exact ⟨rfl, Below.refl _ _⟩
  by_cases h4 : 1048576 < s.size + r
  · go_wp2
    go_ret
    exact ⟨rfl, Below.refl _ _⟩
  go_wp2_with fail
  refine (Hc.out _).mono ?_
  rintro e w1 ⟨⟨a', rfl⟩, hbel⟩
  go_wp2_with fail
  refine (zzOneOf_one s w1).mono ?_
  rintro e w2 ⟨rfl, hw2⟩
  have hbel2 : Below w'.heap.size w' w2 := by rw [hw2]; exact hbel.alloc hbel.size _
  clear hw2 hbel
  go_wp2_with fail
  refine (zzOneOf_none _ _ _ _).mono ?_
  rintro e w3 ⟨rfl, rfl⟩
  go_wp2
  go_ret
  exact ⟨rfl, hbel2⟩
end Go.Proofs.Qxb6001041a
