import Derived.Test.Qxb6001177aWrite
import Derived.Deep.RegionLaw
import Derived.BigRegion
namespace Go.Proofs.Qxb6001177a
open Go.RowKit Go.Deep

theorem yt_ne {w : World} {y t : Nat} {c d : Array Value} {f f' : Nat × Nat} (h1 : w.heap[y]? = some (.cells c 63 f)) (h2 : w.heap[t]? = some (.cells d 61 f')) (e : y = t) : False := by
  subst e
  rw [h1] at h2
  simp at h2

set_option maxHeartbeats 2000000 in
theorem write_new_call (B y t : Nat) (w0 : World) (qs : List PartD) (a b c : Nat) (l : List UInt8) (s : ByteArray) (w : World) (h : Body B y t w0 (qs ++ [⟨a, b, some c⟩]) l w) (hn : qs.length ≤ 1048576) (hl : l.length + s.size ≤ 1048576) (hs : s.toList.isEmpty = false) :
    Calls Try.prog 31 #[.pointer (some ⟨y, 0, none⟩), .string s] w fun e w' => e = .returned (.bool true) ∧ Body B y t w0 (qs ++ [⟨a, b, some c⟩] ++ [⟨l.length, l.length + s.size, none⟩]) (l ++ s.data.toList) w' := by
  obtain ⟨i0, hi, hz0, hz1, hz2⟩ := info_parts infoPart
  obtain ⟨ao, cap, m, hblk, hown⟩ := h.blk
  have hlen : (qs ++ [(⟨a, b, some c⟩ : PartD)]).length = qs.length + 1 := by simp
  rw [hlen] at hblk hown
  clear hlen
  generalize hN : qs.length = k at hown hn hblk
  obtain ⟨g, rfl, g0, g1, g2, gf, hgl, hBg⟩ := last_cells hown hN
  have HN : Hid (qs.length = k) := hN
  clear hN
  have c0 : w.cell? ⟨y, 0, none⟩ = some (.slice (some ⟨g, 0, none⟩) (k + 1) cap) := by rw [Lib.cell_of_heap hblk]; rfl
  have c2 : w.cell? ⟨y, 2, none⟩ = some (.pointer (some ⟨t, 0, none⟩)) := by rw [Lib.cell_of_heap hblk]; rfl
  have hnz : (((k + 1 : Nat) : Int) == 0) = false := by simp; omega
  have HL : Hid (∀ wx : World, Lib.IsBuilderF 61 5 B t (Lib.byteCells l) wx → Calls Try.prog 33 #[.pointer (some ⟨t, 0, none⟩)] wx fun e w' => e = .returned (.int .i64 (l.length : Nat)) ∧ w' = wx) := fun wx hx => len_any B t _ wx hx
  have hbld := h.bld
  have hne := parts_ne hown hblk
  have hBw : B ≤ w.heap.size := Nat.le_trans h.hB h.bel.size
  have ly := lt_of_heap hblk
  have fzA : ∀ o, (w.alloc o).drew.frozen? ⟨y, 0, none⟩ = false := fun o => Lib.frozen_of_heap (w := (w.alloc o).drew) ((Lib.alloc_old w o y ly).trans hblk) 0
  have clA : ∀ o, (w.alloc o).drew.cell? ⟨y, 0, none⟩ = some (.slice (some ⟨g, 0, none⟩) (k + 1) cap) := fun o => (Lib.cell_of_heap (w := (w.alloc o).drew) ((Lib.alloc_old w o y ly).trans hblk) 0).trans rfl
  go_enter Try.func31, Try.ntmps31
  go_wp2_with fail
  go_region_law ((first | (refine step_append_lies _ (by rfl) _ _ _ (by rfl) B 56 i0 _ 3 24 Try.underlying50 hi hz0 hz1 hz2 rfl (by omega) _ (k + 1) (partCells (qs ++ [⟨a, b, some c⟩])) (by rfl) ((hown.alloc _).drew) ⟨w.heap.size, 0, none⟩ 1 1 [.int .i64 l.length, .int .i64 0, .pointer none] (by rfl) (by rfl) (World.news_of_block (cs := #[.int .i64 l.length, .int .i64 0, .pointer none]) (t := 56) (fr := (0, 0)) (heap_alloc_new w _)) (by simp [Value.oneCell']) (by omega) (by unfold maxLen; omega) (by omega) (by simp; omega) (w.heap.size + 1) (by simp) ?_; intro g2 cap2 w1 hown1 hgrow hat hlt; have f1 : w1.frozen? ⟨y, 0, none⟩ = false := (hgrow.frozen_far ⟨y, 0, none⟩ (by show y < _; simp; omega) (Ne.symm hne)).trans (fzA _); have d1 : w1.cell? ⟨y, 0, none⟩ = some (.slice (some ⟨g, 0, none⟩) (k + 1) cap) := (hgrow.cell_far ⟨y, 0, none⟩ (by show y < _; simp; omega) (Ne.symm hne)).trans (clA _)) | (go_simp; go_at_call 33; refine (HL.out _ ?_).mono ?_; exact hbld; rintro e w' ⟨rfl, rfl⟩)))
  all_goals
    have hkb : KeepsB w w1 := (KeepsB.alloc w _).trans (KeepsB.grown (w := (w.alloc _).drew) hgrow (fun j hj => by
      obtain ⟨cc, hcc⟩ := ownsRow_kind (hown.alloc _) j hj
      exact ⟨cc, 56, _, hcc, by decide, by decide⟩))
    have hb2 : w1.heap[y]? = some (.cells #[.slice (some ⟨g, 0, none⟩) (k + 1) cap, m, .pointer (some ⟨t, 0, none⟩), .int .i64 0] 63 (0, 0)) := (hgrow.block y (by simp; omega) (fun e => hne e.symm)).trans ((Lib.alloc_old w _ y ly).trans hblk)
    have hbel2 : Below B w0 w1 := ((h.bel.alloc hBw _).drew).grown hgrow (by simp; omega) (fun j hj => (hown.lt j hj).1)
    have hown2 : w1.ownsRow B 56 3 (.slice (some ⟨g2, 0, none⟩) (k + 1 + 1) cap2) (k + 1 + 1) (partCells (qs ++ [⟨a, b, some c⟩] ++ [⟨l.length, 0, none⟩])) := by rw [partCells_append _ [_], partCells_one]; exact hown1
    have hlen2 : k + 1 + 1 = (qs ++ [(⟨a, b, some c⟩ : PartD)] ++ [(⟨l.length, 0, none⟩ : PartD)]).length := by simp [HN.out]
    have c2w : w1.cell? ⟨y, 2, none⟩ = some (.pointer (some ⟨t, 0, none⟩)) := by rw [Lib.cell_of_heap hb2]; rfl
    have HBW : Hid (B ≤ (w1.setCell ⟨y, 0, none⟩ (.slice (some ⟨g2, 0, none⟩) (k + 1 + 1) cap2)).heap.size) := by
      have h1 := hbel2.size
      have h2 := h.hB
      show B ≤ (w1.setCell _ _).heap.size
      simp
      omega
    obtain ⟨hW, hblkW, hownW⟩ := Body.put' (ps := qs ++ [⟨a, b, some c⟩] ++ [⟨l.length, 0, none⟩]) (l := l) (n := k + 1 + 1) (ao := some ⟨g2, 0, none⟩) (cap := cap2) h.hy hlen2 hb2 hown2 (builder_keep hkb h.bld) hbel2 h.hB
    have HX : Hid (Body B y t w0 (qs ++ [⟨a, b, some c⟩] ++ [⟨l.length, 0, none⟩]) l (w1.setCell ⟨y, 0, none⟩ (.slice (some ⟨g2, 0, none⟩) (k + 1 + 1) cap2))) := hW
    have HXb : Hid ((w1.setCell ⟨y, 0, none⟩ (.slice (some ⟨g2, 0, none⟩) (k + 1 + 1) cap2)).heap[y]? = some (.cells #[.slice (some ⟨g2, 0, none⟩) (k + 1 + 1) cap2, m, .pointer (some ⟨t, 0, none⟩), .int .i64 0] 63 (0, 0))) := hblkW
    have HXo : Hid ((w1.setCell ⟨y, 0, none⟩ (.slice (some ⟨g2, 0, none⟩) (k + 1 + 1) cap2)).ownsRow B 56 3 (.slice (some ⟨g2, 0, none⟩) (k + 1 + 1) cap2) (k + 1 + 1) (partCells (qs ++ [⟨a, b, some c⟩] ++ [⟨l.length, 0, none⟩]))) := hownW
    clear hW hblkW hownW hlen2 hown2 hbel2 hb2 hkb f1 d1 hlt hat hgrow hown1 fzA clA ly hBw hne hbld HL c0 c2 g0 g1 gf hgl hBg hown hblk h
    go_wp2_with fail
    refine (writeString_k B t (Lib.byteCells l) s _ HX.out.bld (by rw [Lib.byteCells_length]; omega) HBW.out).mono ?_
    rintro e w3 ⟨rfl, hbld3, hb3, hk3⟩
    have h3 : Body B y t w0 (qs ++ [⟨a, b, some c⟩] ++ [⟨l.length, 0, none⟩]) (l ++ s.data.toList) w3 := HX.out.others hk3 hb3 (.inr (by rw [strCells_eq]; exact hbld3))
    obtain ⟨ct, hct⟩ := builder_block HX.out.bld
    have hblk3 : w3.heap[y]? = some (.cells #[.slice (some ⟨g2, 0, none⟩) (k + 1 + 1) cap2, m, .pointer (some ⟨t, 0, none⟩), .int .i64 0] 63 (0, 0)) := hk3 y _ HXb.out (fun e => yt_ne HXb.out hct (Option.some.inj e)) (fun c fz e => by simp at e)
    have hown3 := ownsRow_others hk3 hct HXo.out
    clear hk3 hct hbld3 hb3 HX HXb HXo HBW c2w
    have hqn : (qs ++ [(⟨a, b, some c⟩ : PartD)]).length = k + 1 := by simp [HN.out]
    obtain ⟨g', hg', r0, r1, r2, rf, hrl, _⟩ := last_cells hown3 hqn
    obtain rfl : g2 = g' := by simpa using hg'
    clear hg'
    have c0 : w3.cell? ⟨y, 0, none⟩ = some (.slice (some ⟨g2, 0, none⟩) (k + 1 + 1) cap2) := by rw [Lib.cell_of_heap hblk3]; rfl
    have c2 : w3.cell? ⟨y, 2, none⟩ = some (.pointer (some ⟨t, 0, none⟩)) := by rw [Lib.cell_of_heap hblk3]; rfl
    have HL : Hid (∀ wx : World, Lib.IsBuilderF 61 5 B t (Lib.byteCells (l ++ s.data.toList)) wx → Calls Try.prog 33 #[.pointer (some ⟨t, 0, none⟩)] wx fun e w' => e = .returned (.int .i64 ((l ++ s.data.toList).length : Nat)) ∧ w' = wx) := fun wx hx => len_any B t _ wx hx
    have hbld1 := h3.bld
    have hgy : ¬ g2 = y := fun e => parts_ne hown3 hblk3 (by simp [Value.ownBlock, e])
    have hyg : ¬ y = g2 := fun e => hgy e.symm
    have FIN := h3.setEnd hqn hblk3 hown3 (l.length + s.size)
    rw [Int.natCast_add] at FIN
    have HF : Hid (Body B y t w0 (qs ++ [⟨a, b, some c⟩] ++ [⟨l.length, l.length + s.size, none⟩]) (l ++ s.data.toList) (w3.setCell ⟨g2, (k + 1) * 3 + 1, none⟩ (.int .i64 ((l.length : Int) + (s.size : Int))))) := FIN
    clear FIN h3 hown3 hblk3 hqn
    have hi0 : (0 : Int) ≤ (k : Int) + 1 := by omega
    have hi1 : (k : Int) + 1 < (k : Int) + 1 + 1 := by omega
    have hw1 : IntKind.i64.wrap ((k : Int) + 1) = (k : Int) + 1 := by rw [IntKind.wrap_i64]; omega
    have ht1 : ((k : Int) + 1).toNat = k + 1 := by omega
    go_wp2_with fail
    go_region_held3 (fun w' => w'.cell? ⟨y, 0, none⟩ = some (.slice (some ⟨g2, 0, none⟩) (k + 1 + 1) cap2) ∧ w'.cell? ⟨y, 2, none⟩ = some (.pointer (some ⟨t, 0, none⟩))) (go_keep)
      ((go_at_call 33; refine (HL.out _ ?_).mono ?_; exact hbld1; rintro e w' ⟨rfl, rfl⟩))
    go_wp2
    go_ret
    exact ⟨rfl, HF.out.drew⟩
end Go.Proofs.Qxb6001177a
