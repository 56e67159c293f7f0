import Derived.Test.Qxb6616213aNull
import Derived.WalkSpells
namespace Go.Proofs.Qxb6616213a.enc
open Go.ChangeShapes Go.WideShapes Go.ChangeAt Go.RowKit

theorem bytes_yes (tag : Int) (ao : Option Addr) (n c : Nat) (w : World) (h : (n : Int) ≤ 1048576) :
    Calls Try.prog 7 #[.int .i64 tag, .slice ao n c] w fun e w' => e = .returned (.bool true) ∧ w = w' := by
  go_enter Try.func7, Try.ntmps7
  go_wp2
  go_ret
  exact ⟨rfl, rfl⟩
theorem bytes_no (tag : Int) (ao : Option Addr) (n c : Nat) (w : World) (h : ¬ (n : Int) ≤ 1048576) :
    Calls Try.prog 7 #[.int .i64 tag, .slice ao n c] w fun e w' => e = .returned (.bool false) ∧ w = w' := by
  go_enter Try.func7, Try.ntmps7
  go_wp2
  go_ret
  exact ⟨rfl, rfl⟩

set_option maxRecDepth 100000 in
theorem law_early (a0 : Int) (ao : Option Addr) (n c : Nat) (w : World) (h : 1048576 < (n : Int) ∨ ((n : Int) ≤ 1048576 ∧ a0 < 0) ∨ ((n : Int) ≤ 1048576 ∧ 0 ≤ a0 ∧ 30 < a0)) :
    Calls Try.prog 3 #[.int .i64 a0, .slice ao n c] w fun e w' => e = .returned (.bool true) ∧ w' = w := by
  rcases h with h | ⟨h1, h2⟩ | ⟨h1, h2, h3⟩
  · go_enter Try.func3, Try.ntmps3
    go_wp2_with (go_at_call 7; refine (bytes_no a0 ao n c _ (by omega)).mono ?_; rintro e w' ⟨rfl, rfl⟩)
    go_ret
    exact ⟨rfl, rfl⟩
  · go_enter Try.func3, Try.ntmps3
    go_wp2_with (go_at_call 7; refine (bytes_yes a0 ao n c _ (by omega)).mono ?_; rintro e w' ⟨rfl, rfl⟩)
    go_ret
    exact ⟨rfl, rfl⟩
  · go_enter Try.func3, Try.ntmps3
    go_wp2_with (go_at_call 7; refine (bytes_yes a0 ao n c _ (by omega)).mono ?_; rintro e w' ⟨rfl, rfl⟩)
    go_ret
    exact ⟨rfl, rfl⟩

/-- The end of the law, behind the element that was written. -/
theorem fin_eq {tag : Int} {n : Nat} {ds : List Int} (h : nullB ds = ((tag == 5) && decide (n = 0))) : nullB ds = ((tag == 5) && ((n : Int) == 0)) := by
  rw [h]; congr 1; rw [Bool.eq_iff_iff]; simp

set_option maxRecDepth 100000 in
theorem law_nil (a0 : Int) (w : World) (h1 : 0 ≤ a0) (h2 : a0 ≤ 30) :
    Calls Try.prog 3 #[.int .i64 a0, .slice none 0 0] w fun e w' => e = .returned (.bool true) ∧ Below w.heap.size w w' := by
  have hneq := fun w => run_neq_slice_nil_any (P := Try.prog) w 22 5 none 0 0 0 0 Try.underlying22
  have e1 : ¬ a0 < 0 := by omega
  have e2 : ¬ 30 < a0 := by omega
  have HH := hid (And.intro h1 h2)
  clear h1 h2
  go_enter Try.func3, Try.ntmps3
  go_wp2_with (go_at_call 7; refine (bytes_yes a0 none 0 0 _ (by omega)).mono ?_; rintro e w' ⟨rfl, rfl⟩)
  refine (zenc_any a0 0 none 0 [] w HH.out.1 HH.out.2 rfl (by decide) (.inl ⟨rfl, rfl, rfl⟩)).mono ?_
  rintro e w1 ⟨v, k, ds, rfl, ho, hbl, hk, hnull⟩
  have HO := hid ho
  have HB := hid hbl
  have HK := hid hk
  have HD := hid hnull
  clear ho hbl hk hnull
  go_wp2_with fail
  refine (null_own v k ds _ w1 HO.out HK.out).mono ?_
  rintro e w2 ⟨rfl, hb2⟩
  have H2 := hid hb2
  clear hb2
  have HD' := HD.out
  rcases Bool.eq_false_or_eq_true (a0 == 5) with h5 | h5
  · rw [h5] at HD'
    have hn : nullB ds = true := by simpa using HD'
    clear HD HD'
    go_wp2
    go_ret
    exact ⟨rfl, HB.out.trans (H2.out.mono HB.out.size)⟩
  · rw [h5] at HD'
    have hn : nullB ds = false := by simpa using HD'
    clear HD HD'
    go_wp2
    go_ret
    exact ⟨rfl, HB.out.trans (H2.out.mono HB.out.size)⟩

theorem row_cells {w : World} {g : Nat} {cs : List Value} {t : TypeId} (h : w.heap[g]? = some (.cells cs.toArray t (0, 0))) : g < w.heap.size ∧ ∀ j u, cs[j]? = some u → w.cell? ((⟨g, 0, none⟩ : Addr).add j) = some u := by
  refine ⟨(Array.getElem?_eq_some_iff.1 h).1, fun j u hj => ?_⟩
  have hadd : (⟨g, 0, none⟩ : Addr).add j = ⟨g, j, none⟩ := by unfold Addr.add; split <;> simp_all
  rw [hadd]
  simp [World.cell?, h, hj]

set_option maxRecDepth 100000 in
theorem law_some (a0 : Int) (x : Addr) (n c : Nat) (zs : List Int) (w : World) (h1 : 0 ≤ a0) (h2 : a0 ≤ 30) (hn : (n : Int) ≤ 1048576) (hz : zs.length = n) (hc : ∀ j, j < n → w.cell? (x.add j) = some (.int .u8 (zs.getD j 0))) :
    Calls Try.prog 3 #[.int .i64 a0, .slice (some x) n c] w fun e w' => e = .returned (.bool true) ∧ Below w.heap.size w w' := by
  obtain ⟨i0, hi, hz0, hz1, hz2⟩ := info_parts info5
  have HI : Hid (Try.prog.info? 5 = some i0 ∧ i0.zero = some (.int .u8 0) ∧ i0.size = 1 ∧ i0.bytes = 1) := ⟨hi, hz0, hz1, hz2⟩
  have hneq := fun w => run_neq_slice_nil_any (P := Try.prog) w 22 5 (some x) n c 0 0 Try.underlying22
  have e1 : ¬ a0 < 0 := by omega
  have e2 : ¬ 30 < a0 := by omega
  have HH := hid (And.intro h1 h2)
  have HZ := hid hz
  have HC := hid hc
  clear h1 h2 hz hc hi hz0 hz1 hz2
  go_enter Try.func3, Try.ntmps3
  go_wp2_with (first | (go_at_call 7; refine (bytes_yes a0 (some x) n c _ hn).mono ?_; rintro e w' ⟨rfl, rfl⟩) | (at_make; refine wpList_make_full _ rfl _ _ 22 rfl w.heap.size 5 i0 (.int .u8 0) 1 Try.underlying22 HI.out.1 HI.out.2.1 HI.out.2.2.1 _ _ _ _ n rfl rfl rfl rfl (by rw [HI.out.2.2.2]; omega) (by unfold maxLen; omega) (Nat.le_refl _) ?_))
  intro w1 hown hgrow
  have HB := hid ((Below.refl _ _).grown hgrow (Nat.le_refl _) (by simp))
  obtain ⟨cur, hcur, hcs⟩ : ∃ cur : List Value, w1.heap[w.heap.size]? = some (.cells cur.toArray 5 (0, 0)) ∧ cur.length = n := by
    rcases hown.2 with ⟨h, _⟩ | ⟨g, cap, cur, hv, _, hg, _, _, hs, _⟩
    · simp at h
    · simp at hv
      obtain ⟨rfl, rfl⟩ := hv
      exact ⟨cur.toList, by simpa using hg, by simpa using hs⟩
  have HU := hid hcur
  have HS := hid hcs
  clear hown hgrow hcur hcs
  obtain ⟨cs, hcs⟩ : ∃ cs : List Value, cs = zs.map (Value.int .u8) := ⟨_, rfl⟩
  have HCS := hid hcs
  clear hcs
  have hlen : Hid (cs.length = n) := hid (by rw [HCS.out]; simpa using HZ.out)
  have hsrc : Hid (∀ j v, cs[j]? = some v → w1.cell? (x.add j) = some v) := hid (by
    intro j v hj
    rw [HCS.out] at hj
    have hjn : j < zs.length := by
      rcases Nat.lt_or_ge j zs.length with h | h
      · exact h
      · simp [List.getElem?_eq_none (show (zs.map (Value.int .u8)).length ≤ j by simpa using h)] at hj
    have hv : v = .int .u8 (zs.getD j 0) := by
      simp [List.getElem?_eq_getElem hjn] at hj
      simp [List.getD, List.getElem?_eq_getElem hjn, hj]
    have h0 := HC.out j (by have := HZ.out; omega)
    have hblk : (x.add j).block < w.heap.size := block_lt_of_cell h0
    rw [HB.out.cell hblk, h0, hv])
  go_wp2_with (refine wpList_copy_splice rfl (.tmp 25) (.tmp 26) 22 22 rfl 5 Try.underlying22 (by kernel_rfl) _ _ n n n c rfl rfl w.heap.size 0 cur 5 HU.out cs (by rw [hlen.out]; simp) (fun _ => ⟨rfl, x, rfl, hsrc.out⟩) (by rw [hlen.out, HS.out]; omega) (by rw [HCS.out]; exact ints_oneCell _ _) w.heap.size w HB.out (Nat.le_refl _) ?_)
  intro w2 hg2 hb2
  have HB2 := hid hb2
  clear hb2
  have hsp : splice cur 0 cs = zs.map (Value.int .u8) := by
    have h1 := hlen.out
    have h2 := HS.out
    unfold splice
    rw [List.take_zero, List.nil_append, List.drop_of_length_le (by omega), List.append_nil, HCS.out]
  have HR := hid (row_cells (by rw [← hsp]; exact hg2.out) : w.heap.size < w2.heap.size ∧ ∀ j u, (zs.map (Value.int .u8))[j]? = some u → w2.cell? ((⟨w.heap.size, 0, none⟩ : Addr).add j) = some u)
  have HNN : Hid (n ≤ 1048576) := hid (by omega)
  clear hsp hg2 hsrc hlen HCS HS HU HB HC
  go_wp2_with fail
  refine (zenc_any a0 n (some ⟨w.heap.size, 0, none⟩) n zs w2 HH.out.1 HH.out.2 HZ.out HNN.out (.inr ⟨_, rfl, HR.out.1, HR.out.2⟩)).mono ?_
  rintro e w3 ⟨v, k, ds, rfl, ho, hbl, hk, hnull⟩
  have HO := hid ho
  have HB3 := hid (HB2.out.trans (hbl.mono HB2.out.size))
  have HK := hid hk
  have HD := hid (fin_eq hnull)
  clear ho hbl hk hnull
  go_wp2_with fail
  refine (null_own v k ds _ w3 HO.out HK.out).mono ?_
  rintro e w4 ⟨rfl, hb4⟩
  have HB4 := hid (HB3.out.trans (hb4.mono HB3.out.size))
  clear hb4
  have HD' := HD.out
  rcases Bool.eq_false_or_eq_true (a0 == 5) with h5 | h5
  · rcases Bool.eq_false_or_eq_true ((n : Int) == 0) with h0 | h0
    · rw [h5, h0] at HD'
      have hn : nullB ds = true := by simpa using HD'
      clear HD HD'
      go_wp2
      go_ret
      exact ⟨rfl, HB4.out⟩
    · rw [h5, h0] at HD'
      have hn : nullB ds = false := by simpa using HD'
      clear HD HD'
      go_wp2
      go_ret
      exact ⟨rfl, HB4.out⟩
  · rw [h5] at HD'
    have hn : nullB ds = false := by simpa using HD'
    clear HD HD'
    go_wp2
    go_ret
    exact ⟨rfl, HB4.out⟩
end Go.Proofs.Qxb6616213a.enc
