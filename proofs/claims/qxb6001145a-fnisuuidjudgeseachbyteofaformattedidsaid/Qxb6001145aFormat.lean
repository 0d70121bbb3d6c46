import Derived.Test.Qxb6001145aWalks
namespace Go.Proofs.Qxb6001145a
open Go.RowKit Go.Deep

theorem Try.info5 : (Try.prog.info? 5).map (fun i => (i.zero, i.size, i.bytes)) = some (some (.int .u8 0), 1, 1) := by kernel_rfl

/-- The text laid so far: the slice at the head of block B, of n of 36 bytes, owns the numbers xs; below B nothing has turned since w0. -/
structure Laid (B : Nat) (w0 : World) (n : Nat) (xs : List Int) (wr : World) : Prop where
  own : wr.ownsRow B 5 1 (.slice (some ⟨B, 0, none⟩) n 36) n (xs.map (Value.int .u8))
  bel : Below B w0 wr

theorem Laid.length {B n : Nat} {w0 wr : World} {xs : List Int} (h : Laid B w0 n xs wr) : xs.length = n := by
  have := h.own.1
  simpa using this

theorem Laid.push {B n : Nat} {w0 wr w' : World} {xs : List Int} {ys : List Value} (c : Int) (h : Laid B w0 n xs wr) (hB : w0.heap.size = B) (o : Obj)
    (hown : w'.ownsRow B 5 1 (.slice (some ⟨B, 0, none⟩) (n + 1) 36) (n + 1) ys) (hg : (wr.alloc o).grownBy w' (some B)) (hys : ys = (xs ++ [c]).map (Value.int .u8)) : Laid B w0 (n + 1) (xs ++ [c]) w' := by
  refine ⟨hys ▸ hown, ?_⟩
  have hs := h.bel.size
  exact (h.bel.alloc (by omega) o).grown hg (by simp; omega) (fun k hk => by simp at hk; omega)

theorem one_cell (wr : World) (c : Int) : ∀ (j : Nat) (u : Value), ([Value.int .u8 c])[j]? = some u → (wr.alloc (.cells #[.int .u8 c] 5)).cell? ((⟨wr.heap.size, 0, none⟩ : Addr).add j) = some u := by
  intro j u hj
  match j, hj with
  | 0, hj => simp at hj; subst hj; simp [Addr.add]

theorem one_one (c : Int) : ∀ u ∈ [Value.int .u8 c], u.oneCell' = true := by
  intro u hu
  simp at hu
  subst hu
  rfl

set_option maxHeartbeats 400000 in
theorem format_any (A : Array Value) (x : Nat → Int) (up : Bool) (w : World) (_hA : A.size = 16) (hx : ∀ i, i < 16 → A[i]? = some (.int .u8 (x i)) ∧ 0 ≤ x i ∧ x i ≤ 255) :
    Calls Try.prog 11 #[.agg A, .bool up] w fun e w' => e = .returned (.slice (some ⟨w.heap.size + 1, 0, none⟩) 36 36) ∧ Laid (w.heap.size + 1) (w.alloc (.cells A 24)) 36 (fmtTo x up 16) w' := by
  obtain ⟨i0, hi, hz0, hz1, hz2⟩ := info_parts Try.info5
  go_enter Try.func11, Try.ntmps11
  go_wp2_with (at_make; refine wpList_make_own _ rfl _ _ 25 rfl (w.heap.size + 1) 5 i0 (.int .u8 0) 1 Try.underlying25 hi hz0 hz1 .i64 .i64 36 36 rfl rfl rfl (by rw [hz2]; omega) (by unfold maxLen; omega) (by simp) ?_)
  intro w1 hown1 hg1
  have L0 : Laid (w.heap.size + 1) (w.alloc (.cells A 24)) 0 [] w1 := ⟨by simpa using hown1, (Below.refl _ _).grown hg1 (by simp) (fun k hk => by simp at hk)⟩
  clear hown1 hg1
  go_wp2_with fail
  have HX : Hid (∀ i, i < 16 → A[i]? = some (.int .u8 (x i)) ∧ 0 ≤ x i ∧ x i ≤ 255) := hx
  clear hx
  go_loopw [5, 6] (fun v i wr => ∃ k n : Nat, ∃ xs : List Int, k ≤ 16 ∧ i = .int .i64 k ∧ v = .slice (some ⟨w.heap.size + 1, 0, none⟩) n 36 ∧ Hid (xs = fmtTo x up k) ∧ Laid (w.heap.size + 1) (w.alloc (.cells A 24)) n xs wr) (fun _ i _ => 16 - (intOf i).toNat)
  case atStart => exact ⟨0, 0, [], by omega, rfl, rfl, rfl, L0⟩
  case round =>
    clear L0
    obtain ⟨k, n, xs, hk, rfl, rfl, HE, L⟩ := hrel
    by_cases hlt : k < 16
    · have hck : wr.cell? ⟨w.heap.size, k, none⟩ = some (.int .u8 (x k)) := by
        rw [L.bel.cell (p := ⟨w.heap.size, k, none⟩) (by simp)]
        simp [(HX.out k hlt).1]
      have hx0 := (HX.out k hlt).2.1
      have hx1 := (HX.out k hlt).2.2
      have hroom : n + 3 ≤ 36 ∨ n + 2 ≤ 36 ∧ cutB k = false := by
        have h1 := fmt_room x up k hlt
        have h2 := L.length
        rw [HE.out] at h2
        rw [h2] at h1
        exact h1
      by_cases hcut : cutB k = true
      · have hr3 : n + 3 ≤ 36 := by
          rcases hroom with h | ⟨_, h⟩
          · exact h
          · rw [h] at hcut; cases hcut
        clear hroom
        have hdis : k = 4 ∨ k = 6 ∨ k = 8 ∨ k = 10 := by simpa [cutB] using hcut
        clear hcut
        rcases hdis with rfl | rfl | rfl | rfl
        · go_wp2_with (at_builtin; refine wpList_append_fits _ rfl (.tmp 26) (.tmp 27) 25 rfl (w.heap.size + 1) 5 i0 1 Try.underlying25 hi hz1 (w.heap.size + 1) n 36 _ rfl (L.own.alloc _) ⟨_, 0, none⟩ 1 1 [.int .u8 45] rfl rfl (one_cell _ _) (one_one _) (by omega) ?_)
          intro w1b hown1 hg1
          have L1 := L.push 45 (by simp) _ hown1 hg1 (by simp)
          have hck1 : w1b.cell? ⟨w.heap.size, 4, none⟩ = some (.int .u8 (x 4)) := by
            rw [L1.bel.cell (p := ⟨w.heap.size, 4, none⟩) (by simp)]
            simp [(HX.out 4 (by omega)).1]
          clear hown1 hg1 hck L
          go_wp2_with fail
          refine (hexDigit_any _ up _ (by omega) (by omega)).mono ?_
          rintro e w' ⟨rfl, rfl⟩
          go_wp2_with (at_builtin; refine wpList_append_fits _ rfl (.tmp 29) (.tmp 36) 25 rfl (w.heap.size + 1) 5 i0 1 Try.underlying25 hi hz1 (w.heap.size + 1) (n + 1) 36 _ rfl (L1.own.alloc _) ⟨_, 0, none⟩ 1 1 [.int .u8 (hexD (x 4 / 16) up)] rfl rfl (one_cell _ _) (one_one _) (by omega) ?_)
          intro w2 hown2 hg2
          have L2 := L1.push (hexD (x 4 / 16) up) (by simp) _ hown2 hg2 (by simp)
          have hck2 : w2.cell? ⟨w.heap.size, 4, none⟩ = some (.int .u8 (x 4)) := by
            rw [L2.bel.cell (p := ⟨w.heap.size, 4, none⟩) (by simp)]
            simp [(HX.out 4 (by omega)).1]
          clear hown2 hg2 hck1 L1
          go_wp2_with fail
          refine (hexDigit_any _ up _ (by omega) (by omega)).mono ?_
          rintro e w' ⟨rfl, rfl⟩
          go_wp2_with (at_builtin; refine wpList_append_fits _ rfl (.tmp 38) (.tmp 45) 25 rfl (w.heap.size + 1) 5 i0 1 Try.underlying25 hi hz1 (w.heap.size + 1) (n + 1 + 1) 36 _ rfl (L2.own.alloc _) ⟨_, 0, none⟩ 1 1 [.int .u8 (hexD (x 4 % 16) up)] rfl rfl (one_cell _ _) (one_one _) (by omega) ?_)
          intro w3 hown3 hg3
          have L3 := L2.push (hexD (x 4 % 16) up) (by simp) _ hown3 hg3 (by simp)
          clear hown3 hg3 hck2 L2
          go_wp2
          go_roundw
          case rel => exact ⟨4 + 1, _, _, by omega, by go_num, rfl, by rw [HE.out]; simp [Hid, fmtTo, cutB], L3⟩
          case measure => simp [intOf]
        · go_wp2_with (at_builtin; refine wpList_append_fits _ rfl (.tmp 26) (.tmp 27) 25 rfl (w.heap.size + 1) 5 i0 1 Try.underlying25 hi hz1 (w.heap.size + 1) n 36 _ rfl (L.own.alloc _) ⟨_, 0, none⟩ 1 1 [.int .u8 45] rfl rfl (one_cell _ _) (one_one _) (by omega) ?_)
          intro w1b hown1 hg1
          have L1 := L.push 45 (by simp) _ hown1 hg1 (by simp)
          have hck1 : w1b.cell? ⟨w.heap.size, 6, none⟩ = some (.int .u8 (x 6)) := by
            rw [L1.bel.cell (p := ⟨w.heap.size, 6, none⟩) (by simp)]
            simp [(HX.out 6 (by omega)).1]
          clear hown1 hg1 hck L
          go_wp2_with fail
          refine (hexDigit_any _ up _ (by omega) (by omega)).mono ?_
          rintro e w' ⟨rfl, rfl⟩
          go_wp2_with (at_builtin; refine wpList_append_fits _ rfl (.tmp 29) (.tmp 36) 25 rfl (w.heap.size + 1) 5 i0 1 Try.underlying25 hi hz1 (w.heap.size + 1) (n + 1) 36 _ rfl (L1.own.alloc _) ⟨_, 0, none⟩ 1 1 [.int .u8 (hexD (x 6 / 16) up)] rfl rfl (one_cell _ _) (one_one _) (by omega) ?_)
          intro w2 hown2 hg2
          have L2 := L1.push (hexD (x 6 / 16) up) (by simp) _ hown2 hg2 (by simp)
          have hck2 : w2.cell? ⟨w.heap.size, 6, none⟩ = some (.int .u8 (x 6)) := by
            rw [L2.bel.cell (p := ⟨w.heap.size, 6, none⟩) (by simp)]
            simp [(HX.out 6 (by omega)).1]
          clear hown2 hg2 hck1 L1
          go_wp2_with fail
          refine (hexDigit_any _ up _ (by omega) (by omega)).mono ?_
          rintro e w' ⟨rfl, rfl⟩
          go_wp2_with (at_builtin; refine wpList_append_fits _ rfl (.tmp 38) (.tmp 45) 25 rfl (w.heap.size + 1) 5 i0 1 Try.underlying25 hi hz1 (w.heap.size + 1) (n + 1 + 1) 36 _ rfl (L2.own.alloc _) ⟨_, 0, none⟩ 1 1 [.int .u8 (hexD (x 6 % 16) up)] rfl rfl (one_cell _ _) (one_one _) (by omega) ?_)
          intro w3 hown3 hg3
          have L3 := L2.push (hexD (x 6 % 16) up) (by simp) _ hown3 hg3 (by simp)
          clear hown3 hg3 hck2 L2
          go_wp2
          go_roundw
          case rel => exact ⟨6 + 1, _, _, by omega, by go_num, rfl, by rw [HE.out]; simp [Hid, fmtTo, cutB], L3⟩
          case measure => simp [intOf]
        · go_wp2_with (at_builtin; refine wpList_append_fits _ rfl (.tmp 26) (.tmp 27) 25 rfl (w.heap.size + 1) 5 i0 1 Try.underlying25 hi hz1 (w.heap.size + 1) n 36 _ rfl (L.own.alloc _) ⟨_, 0, none⟩ 1 1 [.int .u8 45] rfl rfl (one_cell _ _) (one_one _) (by omega) ?_)
          intro w1b hown1 hg1
          have L1 := L.push 45 (by simp) _ hown1 hg1 (by simp)
          have hck1 : w1b.cell? ⟨w.heap.size, 8, none⟩ = some (.int .u8 (x 8)) := by
            rw [L1.bel.cell (p := ⟨w.heap.size, 8, none⟩) (by simp)]
            simp [(HX.out 8 (by omega)).1]
          clear hown1 hg1 hck L
          go_wp2_with fail
          refine (hexDigit_any _ up _ (by omega) (by omega)).mono ?_
          rintro e w' ⟨rfl, rfl⟩
          go_wp2_with (at_builtin; refine wpList_append_fits _ rfl (.tmp 29) (.tmp 36) 25 rfl (w.heap.size + 1) 5 i0 1 Try.underlying25 hi hz1 (w.heap.size + 1) (n + 1) 36 _ rfl (L1.own.alloc _) ⟨_, 0, none⟩ 1 1 [.int .u8 (hexD (x 8 / 16) up)] rfl rfl (one_cell _ _) (one_one _) (by omega) ?_)
          intro w2 hown2 hg2
          have L2 := L1.push (hexD (x 8 / 16) up) (by simp) _ hown2 hg2 (by simp)
          have hck2 : w2.cell? ⟨w.heap.size, 8, none⟩ = some (.int .u8 (x 8)) := by
            rw [L2.bel.cell (p := ⟨w.heap.size, 8, none⟩) (by simp)]
            simp [(HX.out 8 (by omega)).1]
          clear hown2 hg2 hck1 L1
          go_wp2_with fail
          refine (hexDigit_any _ up _ (by omega) (by omega)).mono ?_
          rintro e w' ⟨rfl, rfl⟩
          go_wp2_with (at_builtin; refine wpList_append_fits _ rfl (.tmp 38) (.tmp 45) 25 rfl (w.heap.size + 1) 5 i0 1 Try.underlying25 hi hz1 (w.heap.size + 1) (n + 1 + 1) 36 _ rfl (L2.own.alloc _) ⟨_, 0, none⟩ 1 1 [.int .u8 (hexD (x 8 % 16) up)] rfl rfl (one_cell _ _) (one_one _) (by omega) ?_)
          intro w3 hown3 hg3
          have L3 := L2.push (hexD (x 8 % 16) up) (by simp) _ hown3 hg3 (by simp)
          clear hown3 hg3 hck2 L2
          go_wp2
          go_roundw
          case rel => exact ⟨8 + 1, _, _, by omega, by go_num, rfl, by rw [HE.out]; simp [Hid, fmtTo, cutB], L3⟩
          case measure => simp [intOf]
        · go_wp2_with (at_builtin; refine wpList_append_fits _ rfl (.tmp 26) (.tmp 27) 25 rfl (w.heap.size + 1) 5 i0 1 Try.underlying25 hi hz1 (w.heap.size + 1) n 36 _ rfl (L.own.alloc _) ⟨_, 0, none⟩ 1 1 [.int .u8 45] rfl rfl (one_cell _ _) (one_one _) (by omega) ?_)
          intro w1b hown1 hg1
          have L1 := L.push 45 (by simp) _ hown1 hg1 (by simp)
          have hck1 : w1b.cell? ⟨w.heap.size, 10, none⟩ = some (.int .u8 (x 10)) := by
            rw [L1.bel.cell (p := ⟨w.heap.size, 10, none⟩) (by simp)]
            simp [(HX.out 10 (by omega)).1]
          clear hown1 hg1 hck L
          go_wp2_with fail
          refine (hexDigit_any _ up _ (by omega) (by omega)).mono ?_
          rintro e w' ⟨rfl, rfl⟩
          go_wp2_with (at_builtin; refine wpList_append_fits _ rfl (.tmp 29) (.tmp 36) 25 rfl (w.heap.size + 1) 5 i0 1 Try.underlying25 hi hz1 (w.heap.size + 1) (n + 1) 36 _ rfl (L1.own.alloc _) ⟨_, 0, none⟩ 1 1 [.int .u8 (hexD (x 10 / 16) up)] rfl rfl (one_cell _ _) (one_one _) (by omega) ?_)
          intro w2 hown2 hg2
          have L2 := L1.push (hexD (x 10 / 16) up) (by simp) _ hown2 hg2 (by simp)
          have hck2 : w2.cell? ⟨w.heap.size, 10, none⟩ = some (.int .u8 (x 10)) := by
            rw [L2.bel.cell (p := ⟨w.heap.size, 10, none⟩) (by simp)]
            simp [(HX.out 10 (by omega)).1]
          clear hown2 hg2 hck1 L1
          go_wp2_with fail
          refine (hexDigit_any _ up _ (by omega) (by omega)).mono ?_
          rintro e w' ⟨rfl, rfl⟩
          go_wp2_with (at_builtin; refine wpList_append_fits _ rfl (.tmp 38) (.tmp 45) 25 rfl (w.heap.size + 1) 5 i0 1 Try.underlying25 hi hz1 (w.heap.size + 1) (n + 1 + 1) 36 _ rfl (L2.own.alloc _) ⟨_, 0, none⟩ 1 1 [.int .u8 (hexD (x 10 % 16) up)] rfl rfl (one_cell _ _) (one_one _) (by omega) ?_)
          intro w3 hown3 hg3
          have L3 := L2.push (hexD (x 10 % 16) up) (by simp) _ hown3 hg3 (by simp)
          clear hown3 hg3 hck2 L2
          go_wp2
          go_roundw
          case rel => exact ⟨10 + 1, _, _, by omega, by go_num, rfl, by rw [HE.out]; simp [Hid, fmtTo, cutB], L3⟩
          case measure => simp [intOf]
      · have b1 : ((k : Int) == 4) = false := by simp [cutB] at hcut; simp; omega
        have b2 : ((k : Int) == 6) = false := by simp [cutB] at hcut; simp; omega
        have b3 : ((k : Int) == 8) = false := by simp [cutB] at hcut; simp; omega
        have b4 : ((k : Int) == 10) = false := by simp [cutB] at hcut; simp; omega
        have hr2 : n + 2 ≤ 36 := by omega
        clear hroom
        go_wp2_with fail
        refine (hexDigit_any _ up _ (by omega) (by omega)).mono ?_
        rintro e w' ⟨rfl, rfl⟩
        go_wp2_with (at_builtin; refine wpList_append_fits _ rfl (.tmp 29) (.tmp 36) 25 rfl (w.heap.size + 1) 5 i0 1 Try.underlying25 hi hz1 (w.heap.size + 1) (n) 36 _ rfl (L.own.alloc _) ⟨_, 0, none⟩ 1 1 [.int .u8 (hexD (x k / 16) up)] rfl rfl (one_cell _ _) (one_one _) (by omega) ?_)
        intro w2 hown2 hg2
        have L2 := L.push (hexD (x k / 16) up) (by simp) _ hown2 hg2 (by simp)
        have hck2 : w2.cell? ⟨w.heap.size, k, none⟩ = some (.int .u8 (x k)) := by
          rw [L2.bel.cell (p := ⟨w.heap.size, k, none⟩) (by simp)]
          simp [(HX.out k hlt).1]
        clear hown2 hg2 hck L
        go_wp2_with fail
        refine (hexDigit_any _ up _ (by omega) (by omega)).mono ?_
        rintro e w' ⟨rfl, rfl⟩
        go_wp2_with (at_builtin; refine wpList_append_fits _ rfl (.tmp 38) (.tmp 45) 25 rfl (w.heap.size + 1) 5 i0 1 Try.underlying25 hi hz1 (w.heap.size + 1) (n + 1) 36 _ rfl (L2.own.alloc _) ⟨_, 0, none⟩ 1 1 [.int .u8 (hexD (x k % 16) up)] rfl rfl (one_cell _ _) (one_one _) (by omega) ?_)
        intro w3 hown3 hg3
        have L3 := L2.push (hexD (x k % 16) up) (by simp) _ hown3 hg3 (by simp)
        clear hown3 hg3 hck2 L2
        go_wp2
        go_roundw
        case rel => exact ⟨k + 1, _, _, by omega, by go_num, rfl, by rw [HE.out]; simp [Hid, fmtTo, hcut], L3⟩
        case measure => simp [intOf]; omega
    · obtain rfl : k = 16 := by omega
      have hn : n = 36 := by rw [← L.length, HE.out, fmt_len]
      subst hn
      rw [HE.out] at L
      go_wp2
      go_ret
      exact ⟨rfl, L⟩
end Go.Proofs.Qxb6001145a
