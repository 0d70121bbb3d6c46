import Derived.Test.Qxb6001145aFormat
namespace Go.Proofs.Qxb6001145a
open Go.RowKit Go.Deep

theorem nums_at (xs : List Int) (i : Nat) (h : i < (strOfNums xs).size) (h0 : 0 ≤ xs.getD i 0) (h1 : xs.getD i 0 ≤ 255) : (((strOfNums xs)[i]'h).toNat : Int) = xs.getD i 0 := by
  have hi : i < xs.length := by rwa [strOfNums_size] at h
  have e : (strOfNums xs)[i]'h = UInt8.ofNat (xs[i]'hi).toNat := by
    show ((xs.map fun n => UInt8.ofNat n.toNat).toArray)[i]'(by simpa using hi) = _
    simp
  have g : xs.getD i 0 = xs[i]'hi := by simp [List.getD, hi]
  rw [g] at h0 h1 ⊢
  rw [e]
  simp
  omega

set_option maxHeartbeats 400000 in
theorem zz_good (xs : List Int) (w : World) (hl : xs.length = 36) (hok : ∀ i : Nat, i < 36 → okAt i (xs.getD i 0) = true) :
    Calls Try.prog 7 #[.string (strOfNums xs)] w fun e w' => e = .returned (.bool true) ∧ ∃ s q, w' = w.iter s q := by
  have hs : (strOfNums xs).size = 36 := by rw [strOfNums_size, hl]
  have hg := isUUID_good (strOfNums xs) w hs (fun i h => by
    have hi : i < 36 := by omega
    have hb := okAt_byte (hok i hi)
    rw [nums_at xs i h hb.1 (by omega)]
    exact hok i hi)
  have HG : Hid (Calls Try.prog 14 #[.string (strOfNums xs)] w fun e w' => e = .returned (.bool true) ∧ ∃ q, w' = w.iter (strOfNums xs) q) := hg
  clear hg hok hs hl
  generalize strOfNums xs = s at HG ⊢
  go_enter Try.func7, Try.ntmps7
  go_wp2_with fail
  refine HG.out.mono ?_
  rintro e w' ⟨rfl, q, rfl⟩
  go_wp2
  go_ret
  exact ⟨rfl, _, _, rfl⟩

set_option maxHeartbeats 400000 in
theorem zz_bad (xs : List Int) (k : Nat) (w : World) (hl : xs.length = 36) (hk : k < 36) (hok : ∀ i : Nat, i < k → okAt i (xs.getD i 0) = true) (h0 : 0 ≤ xs.getD k 0) (h1 : xs.getD k 0 ≤ 255) (hbad : okAt k (xs.getD k 0) = false) :
    Calls Try.prog 7 #[.string (strOfNums xs)] w fun e w' => e = .returned (.bool false) ∧ ∃ s q, w' = w.iter s q := by
  have hs : (strOfNums xs).size = 36 := by rw [strOfNums_size, hl]
  have hg := isUUID_bad (strOfNums xs) k w hs hk (fun i h hi => by
    have hb := okAt_byte (hok i hi)
    rw [nums_at xs i h hb.1 (by omega)]
    exact hok i hi) (fun h => by rw [nums_at xs k h h0 h1]; exact hbad)
  have HG : Hid (Calls Try.prog 14 #[.string (strOfNums xs)] w fun e w' => e = .returned (.bool false) ∧ ∃ q, w' = w.iter (strOfNums xs) q) := hg
  clear hg hok hs hl hbad h0 h1
  generalize strOfNums xs = s at HG ⊢
  go_enter Try.func7, Try.ntmps7
  go_wp2_with fail
  refine HG.out.mono ?_
  rintro e w' ⟨rfl, q, rfl⟩
  go_wp2
  go_ret
  exact ⟨rfl, _, _, rfl⟩

theorem arr16 (A : Array Value) (hA : A.size = 16) : (#[A[0]'(by omega), A[1]'(by omega), A[2]'(by omega), A[3]'(by omega), A[4]'(by omega), A[5]'(by omega), A[6]'(by omega), A[7]'(by omega), A[8]'(by omega), A[9]'(by omega), A[10]'(by omega), A[11]'(by omega), A[12]'(by omega), A[13]'(by omega), A[14]'(by omega), A[15]'(by omega)] : Array Value) = A := by
  obtain ⟨l⟩ := A
  match l, hA with
  | [_, _, _, _, _, _, _, _, _, _, _, _, _, _, _, _], _ => rfl

/-- The text with the byte at place k turned to c. -/
theorem set_at (xs : List Int) (k i : Nat) (c : Int) (hk : k < xs.length) : (xs.set k c).getD i 0 = if i = k then c else xs.getD i 0 := by
  by_cases h : i = k
  · subst h; simp [List.getD, hk]
  · have h' : ¬ k = i := fun e => h e.symm
    simp [List.getD, h, h']

theorem Laid.cellsAt {B n : Nat} {w0 wr : World} {xs : List Int} (h : Laid B w0 n xs wr) : ∀ i, i < n → wr.cell? ⟨B, 0 + i, none⟩ = some (.int .u8 (xs.getD i 0)) := by
  intro i hi
  have hl := h.length
  rw [Nat.zero_add, h.own.cellAt i (by omega)]
  simp [List.getD, hl, hi]

theorem Laid.iter {B n : Nat} {w0 wr : World} {xs : List Int} (h : Laid B w0 n xs wr) (hB : B = w0.heap.size) (s : ByteArray) (q : Nat) : Laid B w0 n xs (wr.iter s q) :=
  ⟨h.own.alloc _, h.bel.alloc (by have := h.bel.size; omega) _⟩

theorem Laid.store {B n : Nat} {w0 wr : World} {xs : List Int} (h : Laid B w0 n xs wr) (k : Nat) (c : Int) : Laid B w0 n (xs.set k c) (wr.setCell ⟨B, k, none⟩ (.int .u8 c)) :=
  ⟨by rw [List.map_set]; exact (h.own.stored k (.int .u8 c)).1, h.bel.setCell (Nat.le_refl _) _⟩

/-- 'string(b)' over the text laid. -/
theorem Laid.conv {B : Nat} {w0 wr : World} {xs : List Int} (h : Laid B w0 36 xs wr) : (convert 25 9 (.slice (some ⟨B, 0, none⟩) 36 36)).run Try.prog wr = .ok (.string (strOfNums xs)) wr :=
  run_convert_bytes_arg (P := Try.prog) wr 25 5 Try.underlying25 Try.underlying5 B 0 36 36 xs h.length h.cellsAt 9 Try.underlying9

theorem below_two (w : World) (A : Array Value) : Below w.heap.size w ((w.alloc (.cells A 24)).alloc (.cells A 24)) :=
  ((Below.refl _ _).alloc (Nat.le_refl _) _).alloc (by simp) _

set_option maxHeartbeats 400000 in
theorem law_out (A : Array Value) (up : Bool) (k c : Int) (w : World) (h : k < 0 ∨ 36 ≤ k) :
    Calls Try.prog 5 #[.agg A, .bool up, .int .i64 k, .int .u8 c] w fun e w' => e = .returned (.bool true) ∧ Below w.heap.size w w' := by
  rcases h with h | h
  all_goals
    go_enter Try.func5, Try.ntmps5
    go_wp2
    go_ret
    exact ⟨rfl, (Below.refl _ _).alloc (Nat.le_refl _) _⟩

set_option maxHeartbeats 400000 in
theorem law_in (A : Array Value) (x : Nat → Int) (up : Bool) (k : Nat) (c : Int) (w : World) (hA : A.size = 16) (hx : ∀ i, i < 16 → A[i]? = some (.int .u8 (x i)) ∧ 0 ≤ x i ∧ x i ≤ 255) (hk : k < 36) (hc0 : 0 ≤ c) (hc1 : c ≤ 255) :
    Calls Try.prog 5 #[.agg A, .bool up, .int .i64 k, .int .u8 c] w fun e w' => e = .returned (.bool true) ∧ Below w.heap.size w w' := by
  have HX : Hid (∀ i, i < 16 → A[i]? = some (.int .u8 (x i)) ∧ 0 ≤ x i ∧ x i ≤ 255) := hx
  clear hx
  go_enter Try.func5, Try.ntmps5
  go_wp2_with fail
  rw [arr16 A hA]
  refine (format_any A x up _ hA HX.out).mono ?_
  rintro e w1 ⟨rfl, L⟩
  have hs : (w.alloc (.cells A 24)).heap.size = w.heap.size + 1 := by simp
  rw [hs] at L ⊢
  have hxl := fmt_len x up
  have hxo := fmt_ok x up (fun i hi => (HX.out i hi).2)
  generalize fmtTo x up 16 = xs at L hxl hxo
  have HO : Hid (xs.length = 36 ∧ ∀ i : Nat, i < 36 → okAt i (xs.getD i 0) = true) := ⟨hxl, hxo⟩
  clear hxl hxo hs
  have hcv := L.conv
  go_wp2_with fail
  refine (zz_good xs _ HO.out.1 HO.out.2).mono ?_
  rintro e w2 ⟨rfl, s, q, hw2⟩
  have L2 : Laid (w.heap.size + 1 + 1) ((w.alloc (.cells A 24)).alloc (.cells A 24)) 36 xs w2 := by rw [hw2]; exact L.iter (by simp) s q
  clear hw2 L hcv
  have hcl : w2.cell? ⟨w.heap.size + 1 + 1, k, none⟩ = some (.int .u8 (xs.getD k 0)) := by have := L2.cellsAt k hk; rwa [Nat.zero_add] at this
  have hfr : w2.frozen? ⟨w.heap.size + 1 + 1, k, none⟩ = false := L2.own.frozenAt k
  have L3 := L2.store k c
  have hcv3 := L3.conv
  clear L2
  have hkl : k < xs.length := by rw [HO.out.1]; exact hk
  have hset : ∀ i : Nat, (xs.set k c).getD i 0 = if i = k then c else xs.getD i 0 := fun i => set_at xs k i c hkl
  have hlen : (xs.set k c).length = 36 := by rw [List.length_set]; exact HO.out.1
  have HZ : Hid (∀ w : World, Calls Try.prog 7 #[.string (strOfNums (xs.set k c))] w fun e w' => e = .returned (.bool (okAt k c)) ∧ ∃ s q, w' = w.iter s q) := by
    intro w
    cases hok : okAt k c with
    | true =>
      refine zz_good (xs.set k c) w hlen (fun i hi => ?_)
      rw [hset]
      split
      · rename_i h; rw [h]; exact hok
      · exact HO.out.2 i hi
    | false =>
      refine zz_bad (xs.set k c) k w hlen hk (fun i hi => ?_) ?_ ?_ ?_
      · rw [hset, if_neg (by omega)]; exact HO.out.2 i (by omega)
      · rw [hset, if_pos rfl]; exact hc0
      · rw [hset, if_pos rfl]; exact hc1
      · rw [hset, if_pos rfl]; exact hok
  clear hkl hset hlen HO
  go_wp2_with fail
  refine (isHexByte_any c _).mono ?_
  rintro e w3 ⟨rfl, rfl⟩
  go_wp2_with fail
  refine (isHyphenPos_any k _).mono ?_
  rintro e w4 ⟨rfl, rfl⟩
  have hbel := ((below_two w A).trans (L3.bel.mono (by omega)))
  cases hy : hypB k with
  | true =>
    have HK : Hid (okAt k c = (c == 45)) := by
      show okAt k c = (c == 45)
      unfold okAt
      rw [if_pos hy]
      rfl
    clear hy L3
    go_wp2_with fail
    refine (HZ.out _).mono ?_
    rintro e w5 ⟨rfl, s', q', rfl⟩
    rw [HK.out]
    go_wp2
    go_ret
    exact ⟨ret_bool (by simp), hbel.alloc hbel.size _⟩
  | false =>
    have HK : Hid (okAt k c = hexB c) := by
      show okAt k c = hexB c
      unfold okAt
      rw [if_neg (by rw [hy]; simp)]
    clear hy L3
    go_wp2_with fail
    refine (HZ.out _).mono ?_
    rintro e w5 ⟨rfl, s', q', rfl⟩
    rw [HK.out]
    go_wp2
    go_ret
    exact ⟨ret_bool (by simp), hbel.alloc hbel.size _⟩
end Go.Proofs.Qxb6001145a
