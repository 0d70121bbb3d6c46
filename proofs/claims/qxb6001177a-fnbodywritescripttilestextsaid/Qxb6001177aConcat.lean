import Derived.Test.Qxb6001177aScript
namespace Go.Proofs.Qxb6001177a
open Go.RowKit Go.Deep

/-- The bytes gathered so far: the slice at the head of block g owns them; below B nothing has turned since w0. -/
structure Buf (B : Nat) (w0 : World) (g cap : Nat) (l : List UInt8) (wr : World) : Prop where
  own : wr.ownsRow B 5 1 (.slice (some ⟨g, 0, none⟩) l.length cap) l.length (Lib.byteCells l)
  bel : Below B w0 wr

theorem Buf.push {B : Nat} {w0 wr w' : World} {g cap g' cap' : Nat} {l : List UInt8} {c : UInt8} {o : Obj} {ys : List Value} (h : Buf B w0 g cap l wr) (hB : B ≤ w0.heap.size)
    (hown : w'.ownsRow B 5 1 (.slice (some ⟨g', 0, none⟩) (l.length + 1) cap') (l.length + 1) ys) (hg : (wr.alloc o).grownBy w' (Value.slice (some ⟨g, 0, none⟩) l.length cap).ownBlock) (hys : ys = Lib.byteCells (l ++ [c])) : Buf B w0 g' cap' (l ++ [c]) w' := by
  have e : (l ++ [c]).length = l.length + 1 := by simp
  refine ⟨by rw [e]; exact hys ▸ hown, ?_⟩
  have hs := h.bel.size
  exact (h.bel.alloc (by omega) o).grown hg (by simp; omega) (fun k hk => (h.own.lt k hk).1)

theorem nums_bytes (l : List UInt8) : strOfNums (l.map fun b => (b.toNat : Int)) = ⟨l.toArray⟩ := by
  have h : (l.map fun b => (b.toNat : Int)).map (fun n => UInt8.ofNat n.toNat) = l := by
    rw [List.map_map]
    conv => rhs; rw [← List.map_id l]
    apply List.map_congr_left
    intro b _
    simp
  unfold strOfNums
  rw [h]

theorem Buf.conv {B : Nat} {w0 wr : World} {g cap : Nat} {l : List UInt8} (h : Buf B w0 g cap l wr) : (convert 48 9 (.slice (some ⟨g, 0, none⟩) l.length cap)).run Try.prog wr = .ok (.string ⟨l.toArray⟩) wr := by
  have := run_convert_bytes_arg (P := Try.prog) wr 48 5 Try.underlying48 Try.underlying5 g 0 l.length cap (l.map fun b => (b.toNat : Int)) (by simp) (fun i hi => by
    rw [Nat.zero_add, h.own.cellAt i (by omega)]
    simp [Lib.byteCells, List.getD, hi]) 9 Try.underlying9
  rwa [nums_bytes] at this

theorem byte_cell (wr : World) (c : Int) : ∀ (j : Nat) (u : Value), ([Value.int .u8 c])[j]? = some u → (wr.alloc (.cells #[.int .u8 c] 5)).cell? ((⟨wr.heap.size, 0, none⟩ : Addr).add j) = some u := by
  intro j u hj
  match j, hj with
  | 0, hj => simp at hj; subst hj; simp [Addr.add]

theorem byte_one (c : Int) : ∀ u ∈ [Value.int .u8 c], u.oneCell' = true := by
  intro u hu
  simp at hu
  subst hu
  rfl

theorem ret_string {a b : ByteArray} (h : a = b) : Ending.returned (.string a) = .returned (.string b) := by rw [h]

theorem take_snoc (s : ByteArray) (k : Nat) (h : k < s.size) : s.data.toList.take (k + 1) = s.data.toList.take k ++ [s[k]] := by
  rw [List.take_succ_eq_append_getElem (by simpa using h)]
  rfl

theorem take_len (P : List UInt8) (s : ByteArray) (q : Nat) (h : q ≤ s.size) : (P ++ s.data.toList.take q).length = P.length + q := by
  have e : s.data.toList.length = s.size := by rw [Array.length_toList]; rfl
  rw [List.length_append, List.length_take, e]
  omega

set_option maxHeartbeats 2000000 in
theorem concat_any (co : Option Addr) (C n cn : Nat) (f : Nat → ByteArray) (w : World) (hn : n ≤ 65536) (hl : (catTo (bytesOf f) n).length ≤ 1048576) (hf : HasV w.heap.size w co C n (fun i => .string (f i))) :
    Calls Try.prog 13 #[.slice co n cn] w fun e w' => e = .returned (.string ⟨(catTo (bytesOf f) n).toArray⟩) ∧ Below w.heap.size w w' := by
  obtain ⟨i0, hi, hz0, hz1, hz2⟩ := info_parts infoByte
  have HF : Hid (HasV w.heap.size w co C n (fun i => .string (f i))) := hf
  have HL : Hid ((catTo (bytesOf f) n).length ≤ 1048576) := hl
  clear hf hl
  go_enter Try.func13, Try.ntmps13
  go_wp2_with (at_make; refine wpList_make_own _ rfl _ _ 48 rfl w.heap.size 5 i0 (.int .u8 0) 1 Try.underlying48 hi hz0 hz1 .i64 .i64 0 0 rfl rfl rfl (by omega) (by unfold maxLen; omega) (by omega) ?_)
  intro w1 hown1 hg1
  have HB0 : Hid (Buf w.heap.size w w.heap.size 0 [] w1) := ⟨by simpa [Lib.byteCells] using hown1, (Below.refl _ _).grown hg1 (by simp) (fun k hk => by simp at hk)⟩
  clear hown1 hg1
  go_wp2_with fail
  go_loopw [3, 4, 5] (fun v i _ wr => ∃ k g cap : Nat, k ≤ n ∧ i = .int .i64 k ∧ v = .slice (some ⟨g, 0, none⟩) (catTo (bytesOf f) k).length cap ∧ Hid (Buf w.heap.size w g cap (catTo (bytesOf f) k) wr)) (fun _ i _ _ => n - (intOf i).toNat)
  case atStart => exact ⟨0, w.heap.size, 0, by omega, rfl, rfl, HB0⟩
  case round =>
    obtain ⟨k, g, cap, hk, rfl, rfl, HB⟩ := hrel
    clear HB0
    by_cases hlt : k < n
    · obtain ⟨hCB, rfl⟩ := HF.out.loc (by omega)
      have hcell : Hid (∀ wx : World, Below w.heap.size w wx → wx.cell? ⟨C, k, none⟩ = some (.string (f k))) := fun wx hx => (hx.cell (p := ⟨C, k, none⟩) hCB).trans (HF.out.cell k hlt)
      have hsz : (f k).size ≤ 1048576 ∧ (catTo (bytesOf f) k).length + (f k).size ≤ 1048576 := by
        have h1 := catTo_succ_len f k
        have h2 := catTo_mono f (show k + 1 ≤ n by omega)
        have h3 := HL.out
        omega
      obtain ⟨hsz1, hsz2⟩ := hsz
      have hck := hcell.out wr HB.out.bel
      have HE : Hid (catTo (bytesOf f) (k + 1) = catTo (bytesOf f) k ++ (f k).data.toList) := rfl
      generalize hP : catTo (bytesOf f) k = P at HB HE hsz2 ⊢
      have HP : Hid (catTo (bytesOf f) k = P) := hP
      clear hP
      go_wp2_with fail
      go_loopw [3, 5] (fun v j wi => ∃ q g cap : Nat, q ≤ (f k).size ∧ j = .int .i64 q ∧ v = .slice (some ⟨g, 0, none⟩) (P.length + q) cap ∧ Hid (Buf w.heap.size w g cap (P ++ (f k).data.toList.take q) wi)) (fun _ j _ => (f k).size - (intOf j).toNat)
      case atStart => exact ⟨0, g, cap, by omega, rfl, rfl, by simpa [Hid] using HB.out⟩
      case round =>
        clear HB hck
        obtain ⟨q, g, cap, hq, rfl, rfl, HB⟩ := hrel
        have hck := hcell.out _ HB.out.bel
        by_cases hqlt : q < (f k).size
        · have hlen := take_len P (f k) q (by omega)
          have hown := HB.out.own
          rw [hlen] at hown
          have hBw := Nat.le_trans (Nat.le_refl w.heap.size) HB.out.bel.size
          go_wp2_with (at_builtin; refine wpList_append_lies _ rfl (.tmp 22) (.tmp 29) 48 rfl w.heap.size 5 i0 (.int .u8 0) 1 1 Try.underlying48 hi hz0 hz1 hz2 rfl (by omega) _ (P.length + q) _ rfl (hown.alloc _) ⟨_, 0, none⟩ 1 1 [.int .u8 ((f k)[q]'hqlt).toNat] rfl rfl (byte_cell _ _) (byte_one _) (by omega) (by unfold maxLen; omega) (by omega) (by simp; omega) _ rfl ?_)
          intro g3 cap3 w3 hown3 hg3 _ _
          have HB3 : Hid (Buf w.heap.size w g3 cap3 (P ++ (f k).data.toList.take (q + 1)) w3) := by
            show Buf w.heap.size w g3 cap3 (P ++ (f k).data.toList.take (q + 1)) w3
            rw [take_snoc (f k) q hqlt, ← List.append_assoc]
            refine HB.out.push (Nat.le_refl _) (by rw [hlen]; exact hown3) (by rw [hlen]; exact hg3) ?_
            rw [Lib.byteCells_append _ [_]]
            rfl
          clear hown3 hg3 hown hlen HB hck
          go_wp2
          go_roundw
          case rel => exact ⟨q + 1, g3, cap3, by omega, by go_num, rfl, HB3⟩
          case measure => simp [intOf]; omega
        · obtain rfl : q = (f k).size := by omega
          have HB3 : Hid (Buf w.heap.size w g cap (catTo (bytesOf f) (k + 1)) wr) := by
            show Buf w.heap.size w g cap (catTo (bytesOf f) (k + 1)) wr
            rw [HE.out]
            have e : (f k).data.toList.take (f k).size = (f k).data.toList := List.take_of_length_le (by rw [Array.length_toList]; exact Nat.le_refl _)
            have := HB.out
            rwa [e] at this
          have HLN : Hid (P.length + (f k).size = (catTo (bytesOf f) (k + 1)).length) := by
            show P.length + (f k).size = (catTo (bytesOf f) (k + 1)).length
            rw [catTo_succ_len, HP.out]
          clear HB
          go_wp2
          go_roundw
          case rel => exact ⟨k + 1, g, cap, by omega, by go_num, by rw [HLN.out], HB3⟩
          case measure => simp [intOf]; omega
    · obtain rfl : k = n := by omega
      have hcv := HB.out.conv
      have HX : Hid (Below w.heap.size w wr) := HB.out.bel
      generalize hS : (⟨(catTo (bytesOf f) k).toArray⟩ : ByteArray) = s at hcv
      have HS : Hid ((⟨(catTo (bytesOf f) k).toArray⟩ : ByteArray) = s) := hS
      clear HB HF hS
      go_wp2
      go_ret
      exact ⟨ret_string HS.out.symm, HX.out⟩
end Go.Proofs.Qxb6001177a
