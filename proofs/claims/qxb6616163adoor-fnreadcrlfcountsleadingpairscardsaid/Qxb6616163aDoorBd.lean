import Derived.Test.Qxb6616163aDoorBf
namespace Go.Proofs.Qxb6616163aDoor.rd
open Go.ChangeShapes Go.WideShapes Go.ChangeAt Go.RowKit

theorem splice_get (cur src : List Value) (off j : Nat) (h : off + src.length ≤ cur.length) (hj : j < src.length) : (splice cur off src)[off + j]? = src[j]? := by
  unfold splice
  have h1 : (cur.take off).length = off := by rw [List.length_take]; omega
  rw [List.getElem?_append_right (by omega), h1, Nat.add_sub_cancel_left, List.getElem?_append_left hj]

set_option maxRecDepth 100000 in
set_option maxHeartbeats 1000000 in
/-- The buffer is empty, the text is not at its end, the destination is as long as the buffer or longer: the text is read straight into it. -/
theorem bread_direct (bR bS bB d off m c r i k : Nat) (td : TypeId) (lb lr pr : Int) (s : ByteArray) (cur : List Value) (w : World)
    (hR : w.heap[bR]? = some (rdr bS bB r r .nilIface lb lr)) (hS : w.heap[bS]? = some (.cells #[.string s, .int .i64 i, .int .i64 pr] 39 (0, 0))) (hd : w.heap[d]? = some (.cells cur.toArray td (0, 0)))
    (hdR : d ≠ bR) (hdS : d ≠ bS) (hSR : bS ≠ bR) (hm : 4096 ≤ m) (hmx : m ≤ maxLen) (hfit : off + m ≤ cur.length)
    (hi : i < s.size) (hs : s.size ≤ 65536) (hk : k = Nat.min (s.size - i) m) :
    Calls Tryd.prog 31 #[.pointer (some ⟨bR, 0, none⟩), .slice (some ⟨d, off, none⟩) m c] w fun e w' => e = .returned (.tuple #[.int .i64 k, .nilIface]) ∧
      (∃ lb', w'.heap[bR]? = some (rdr bS bB r r .nilIface lb' (-1))) ∧ w'.heap[bS]? = some (.cells #[.string s, .int .i64 ((i + k : Nat) : Int), .int .i64 (-1)] 39 (0, 0)) ∧
      w'.heap[d]? = some (.cells (splice cur off (seg s i k)).toArray td (0, 0)) ∧ Tch [bR, bS, d] w w' := by
  have c0 : w.cell? ⟨bR, 0, none⟩ = some (.slice (some ⟨bB, 0, none⟩) 4096 4096) := cell_of hR rfl
  have c1 : w.cell? ⟨bR, 1, none⟩ = some (.iface 28 (.pointer (some ⟨bS, 0, none⟩))) := cell_of hR rfl
  have c2 : w.cell? ⟨bR, 2, none⟩ = some (.int .i64 r) := cell_of hR rfl
  have c3 : w.cell? ⟨bR, 3, none⟩ = some (.int .i64 r) := cell_of hR rfl
  have c4 : w.cell? ⟨bR, 4, none⟩ = some .nilIface := cell_of hR rfl
  have hm' : ((m : Int) == 0) = false := beq_eq_false_iff_ne.2 (by omega)
  have hm3 : (4096 : Int) ≤ (m : Int) := by omega
  have HR := hid hR
  have HS := hid hS
  have HD := hid hd
  have HH := hid (And.intro hm (And.intro hmx (And.intro hfit (And.intro hi (And.intro hs hk)))))
  clear hR hS hd hm hmx hfit hi hs hk
  go_enter Tryd.func31, Tryd.ntmps31
  go_wp2
  go_quiet (fail)
  go_wp2_with fail
  have hnb : bR ∉ [bS, d] := by simp; exact ⟨fun e => hSR e.symm, fun e => hdR e.symm⟩
  refine (sread_some bS d off m c i k td pr s cur (w.drewN nq) HS.out HD.out hdS HH.out.2.2.1 HH.out.2.2.2.1 HH.out.2.2.2.2.1 HH.out.2.2.2.2.2).mono ?_
  rintro e w1 ⟨rfl, hS1, hD1, hT1⟩
  have HR1 := hid ((hT1.block bR hnb).trans HR.out)
  have HS1 := hid hS1
  have HD1 := hid hD1
  have HT1 : Hid (Tch [bR, bS, d] w w1) := hid (((Tch.refl _ _).drewN nq).trans (hT1.mono (by simp)))
  have hk1 : 1 ≤ k ∧ k ≤ m ∧ k ≤ s.size - i := by
    obtain ⟨q1, q2, q3, q4, q5, q6⟩ := HH.out
    rw [q6]
    exact ⟨Nat.le_min.2 ⟨by omega, by omega⟩, Nat.min_le_right _ _, Nat.min_le_left _ _⟩
  have HK := hid hk1
  have b1 : (1 : Int) ≤ (k : Int) := by omega
  have b2 : (k : Int) ≤ 65536 := by have := HH.out.2.2.2.2.1; omega
  have b3 : (k : Int) ≤ (m : Int) := by omega
  clear hS1 hD1 hT1 hk1 c0 c1 c2 c3 c4 HR HS HD
  have c4 : w1.cell? ⟨bR, 4, none⟩ = some .nilIface := cell_of HR1.out rfl
  have c5 : w1.cell? ⟨bR, 5, none⟩ = some (.int .i64 lb) := cell_of HR1.out rfl
  have c6 : w1.cell? ⟨bR, 6, none⟩ = some (.int .i64 lr) := cell_of HR1.out rfl
  have z4 : w1.frozen? ⟨bR, 4, none⟩ = false := free_of HR1.out
  have z5 : w1.frozen? ⟨bR, 5, none⟩ = false := free_of HR1.out
  have z6 : w1.frozen? ⟨bR, 6, none⟩ = false := free_of HR1.out
  obtain ⟨x, hx⟩ : ∃ n : Int, (splice cur off (seg s i k))[off + (k - 1)]? = some (.int .u8 n) := by
    obtain ⟨q1, q2, q3, q4, q5, q6⟩ := HH.out
    obtain ⟨p1, p2, p3⟩ := HK.out
    have hl := seg_length s i k (by omega)
    rw [splice_get _ _ _ _ (by omega) (by omega)]
    obtain ⟨y, hy⟩ := areBytes_seg s i k (k - 1) (seg s i k)[k - 1] (List.getElem?_eq_getElem (by omega))
    exact ⟨y, by rw [List.getElem?_eq_getElem (by omega), hy]⟩
  have cx : w1.cell? ⟨d, off + (k - 1), none⟩ = some (.int .u8 x) := cell_of HD1.out (by simpa using hx)
  have hj : ((k : Int) - 1).toNat = k - 1 := by omega
  have b6 : (0 : Int) ≤ (k : Int) - 1 := by omega
  have b7 : (k : Int) - 1 < (m : Int) := by omega
  have HX := hid hx
  clear hx
  go_wp2_with fail
  obtain ⟨W2, e2⟩ : ∃ W, W = ((w1.setCell ⟨bR, 4, none⟩ .nilIface).setCell ⟨bR, 5, none⟩ (.int .i64 (wrap64 x))).setCell ⟨bR, 6, none⟩ (.int .i64 (-1)) := ⟨_, rfl⟩
  rw [← e2]
  have HR2 : Hid (W2.heap[bR]? = some (rdr bS bB r r .nilIface (wrap64 x) (-1))) := by
    rw [e2]; exact hid ((setCell_block (setCell_block (setCell_block HR1.out 4 .nilIface) 5 (.int .i64 (wrap64 x))) 6 (.int .i64 (-1))).trans (by simp))
  have HS2 : Hid (W2.heap[bS]? = some (.cells #[.string s, .int .i64 ((i + k : Nat) : Int), .int .i64 (-1)] 39 (0, 0))) := by
    rw [e2]; exact hid ((((Below.heap_setCell _ _ _ _ hSR).trans (Below.heap_setCell _ _ _ _ hSR)).trans (Below.heap_setCell _ _ _ _ hSR)).trans HS1.out)
  have HD2 : Hid (W2.heap[d]? = some (.cells (splice cur off (seg s i k)).toArray td (0, 0))) := by
    rw [e2]; exact hid ((((Below.heap_setCell _ _ _ _ hdR).trans (Below.heap_setCell _ _ _ _ hdR)).trans (Below.heap_setCell _ _ _ _ hdR)).trans HD1.out)
  have HT2 : Hid (Tch [bR, bS, d] w W2) := by rw [e2]; exact hid (((HT1.out.setCell (by simp) _).setCell (by simp) _).setCell (by simp) _)
  clear e2 c4 c5 c6 z4 z5 z6 cx HR1 HS1 HD1 HT1
  refine (rerr bR bS bB r r .nilIface (wrap64 x) (-1) W2 HR2.out).mono ?_
  rintro e w3 ⟨rfl, hR3, hT3⟩
  have HR3 := hid hR3
  have HT3 := hid hT3
  clear hR3 hT3
  go_wp2
  go_ret2
  exact ⟨rfl, ⟨_, HR3.out⟩, (HT3.out.block bS (by simpa using hSR)).trans HS2.out, (HT3.out.block d (by simpa using hdR)).trans HD2.out, HT2.out.trans (HT3.out.mono (by simp))⟩

set_option maxRecDepth 100000 in
set_option maxHeartbeats 1000000 in
/-- The buffer is empty, the text is at its end: 0, io.EOF; nothing is written but the reader's own block. -/
theorem bread_end (bR bS bB m c r i : Nat) (lb lr pr : Int) (s : ByteArray) (da : Option Addr) (ae : Addr) (w : World)
    (hR : w.heap[bR]? = some (rdr bS bB r r .nilIface lb lr)) (hS : w.heap[bS]? = some (.cells #[.string s, .int .i64 i, .int .i64 pr] 39 (0, 0))) (he : w.cell? ⟨0, 0, none⟩ = some (.iface 50 (.pointer (some ae))))
    (hSR : bS ≠ bR) (hm : 1 ≤ m) (hi : (s.size : Int) ≤ (i : Int)) :
    Calls Tryd.prog 31 #[.pointer (some ⟨bR, 0, none⟩), .slice da m c] w fun e w' => e = .returned (.tuple #[.int .i64 0, .iface 50 (.pointer (some ae))]) ∧
      (∃ r' lb' lr', r' ≤ r ∧ w'.heap[bR]? = some (rdr bS bB r' r' .nilIface lb' lr')) ∧ Tch [bR] w w' := by
  have c0 : w.cell? ⟨bR, 0, none⟩ = some (.slice (some ⟨bB, 0, none⟩) 4096 4096) := cell_of hR rfl
  have c1 : w.cell? ⟨bR, 1, none⟩ = some (.iface 28 (.pointer (some ⟨bS, 0, none⟩))) := cell_of hR rfl
  have c2 : w.cell? ⟨bR, 2, none⟩ = some (.int .i64 r) := cell_of hR rfl
  have c3 : w.cell? ⟨bR, 3, none⟩ = some (.int .i64 r) := cell_of hR rfl
  have c4 : w.cell? ⟨bR, 4, none⟩ = some .nilIface := cell_of hR rfl
  have z2 : w.frozen? ⟨bR, 2, none⟩ = false := free_of hR
  have z3 : w.frozen? ⟨bR, 3, none⟩ = false := free_of hR
  have hm' : ((m : Int) == 0) = false := beq_eq_false_iff_ne.2 (by omega)
  have HR := hid hR
  have HS := hid hS
  have HE := hid he
  have HH := hid (And.intro hm hi)
  by_cases hm4 : (4096 : Int) ≤ (m : Int)
  · clear hR hS he hm hi
    go_enter Tryd.func31, Tryd.ntmps31
    go_wp2
    go_quiet (fail)
    go_wp2_with fail
    refine (sread_end bS i pr s (.slice da m c) (.iface 50 (.pointer (some ae))) (w.drewN nq) HS.out HE.out HH.out.2).mono ?_
    rintro e w1 ⟨rfl, hT1⟩
    have HR1 := hid ((hT1.block bR (by simp)).trans HR.out)
    have HT1 : Hid (Tch [bR] w w1) := hid (((Tch.refl _ _).drewN nq).trans (hT1.mono (by simp)))
    clear hT1 c0 c1 c2 c3 c4 z2 z3
    have c4 : w1.cell? ⟨bR, 4, none⟩ = some .nilIface := cell_of HR1.out rfl
    have z4 : w1.frozen? ⟨bR, 4, none⟩ = false := free_of HR1.out
    go_wp2_with fail
    obtain ⟨W2, e2⟩ : ∃ W, W = w1.setCell ⟨bR, 4, none⟩ (.iface 50 (.pointer (some ae))) := ⟨_, rfl⟩
    rw [← e2]
    have HR2 : Hid (W2.heap[bR]? = some (rdr bS bB r r (.iface 50 (.pointer (some ae))) lb lr)) := by rw [e2, setCell_block HR1.out 4]; exact hid (by simp)
    have HT2 : Hid (Tch [bR] w W2) := by rw [e2]; exact hid (HT1.out.setCell (by simp) _)
    clear e2 c4 z4 HR1 HT1
    refine (rerr bR bS bB r r (.iface 50 (.pointer (some ae))) lb lr W2 HR2.out).mono ?_
    rintro e w3 ⟨rfl, hR3, hT3⟩
    have HR3 := hid hR3
    have HT3 := hid hT3
    clear hR3 hT3
    go_wp2
    go_ret2
    exact ⟨rfl, ⟨r, lb, lr, Nat.le_refl _, HR3.out⟩, HT2.out.trans HT3.out⟩
  · clear hR hS he hm hi
    go_enter Tryd.func31, Tryd.ntmps31
    go_wp2
    go_quiet (fail)
    go_wp2
    obtain ⟨W1, e1⟩ : ∃ W, W = ((w.drewN nq).setCell ⟨bR, 2, none⟩ (.int .i64 0)).setCell ⟨bR, 3, none⟩ (.int .i64 0) := ⟨_, rfl⟩
    rw [← e1]
    have HR1 : Hid (W1.heap[bR]? = some (rdr bS bB 0 0 .nilIface lb lr)) := by
      rw [e1, setCell_block (setCell_block (w := w.drewN nq) HR.out 2 (.int .i64 0)) 3 (.int .i64 0)]; exact hid (by simp)
    have HS1 : Hid (W1.heap[bS]? = some (.cells #[.string s, .int .i64 i, .int .i64 pr] 39 (0, 0))) := by
      rw [e1]; exact hid (((Below.heap_setCell _ _ _ _ hSR).trans (Below.heap_setCell _ _ _ _ hSR)).trans HS.out)
    have HE1 : Hid (W1.cell? ⟨0, 0, none⟩ = some (.iface 50 (.pointer (some ae)))) := by
      rw [e1, World.cell?_setCell_other _ _ _ _ (by simp), World.cell?_setCell_other _ _ _ _ (by simp)]; exact HE
    have HT1 : Hid (Tch [bR] w W1) := by rw [e1]; exact hid ((((Tch.refl _ _).drewN _).setCell (by simp) _).setCell (by simp) _)
    clear e1 c0 c1 c2 c3 c4 z2 z3 HR HS HE
    have c0 : W1.cell? ⟨bR, 0, none⟩ = some (.slice (some ⟨bB, 0, none⟩) 4096 4096) := cell_of HR1.out rfl
    have c1 : W1.cell? ⟨bR, 1, none⟩ = some (.iface 28 (.pointer (some ⟨bS, 0, none⟩))) := cell_of HR1.out rfl
    have c4 : W1.cell? ⟨bR, 4, none⟩ = some .nilIface := cell_of HR1.out rfl
    have z4 : W1.frozen? ⟨bR, 4, none⟩ = false := free_of HR1.out
    have hnb : bR ∉ ([] : List Nat) := by simp
    have HC : Hid (∀ W : World, Tch [] W1 W → Calls Tryd.prog 36 #[.pointer (some ⟨bS, 0, none⟩), .slice (some ⟨bB, 0, none⟩) 4096 4096] W fun e w' => e = .returned (.tuple #[.int .i64 0, .iface 50 (.pointer (some ae))]) ∧ Tch [] W w') :=
      fun W hW => sread_end bS i pr s (.slice (some ⟨bB, 0, none⟩) 4096 4096) (.iface 50 (.pointer (some ae))) W ((hW.block bS (by simp)).trans HS1.out) ((hW.cell (by simp)).trans HE1.out) HH.out.2
    go_region_held3 (fun w' => w'.cell? ⟨bR, 0, none⟩ = some (.slice (some ⟨bB, 0, none⟩) 4096 4096) ∧ w'.cell? ⟨bR, 1, none⟩ = some (.iface 28 (.pointer (some ⟨bS, 0, none⟩)))) (first | go_keep | exact ⟨d0, d1⟩ | (refine ⟨?_, ?_⟩ <;> (rw [World.cell?_setCell_other _ _ _ _ (by simp)]; first | exact d0 | exact d1))) ((go_at_call 36; refine (HC.out _ ((Tch.refl _ _).drew)).mono ?_; rintro e w' ⟨rfl, hT⟩; have d0 := (hT.cell (p := ⟨bR, 0, none⟩) hnb).trans c0; have d1 := (hT.cell (p := ⟨bR, 1, none⟩) hnb).trans c1; have d4 : w'.cell? ⟨bR, 4, none⟩ = some .nilIface := (hT.cell hnb).trans c4; have y4 : w'.frozen? ⟨bR, 4, none⟩ = false := (hT.frozen hnb).trans z4))
    obtain ⟨W2, e2⟩ : ∃ W, W = w'.setCell ⟨bR, 4, none⟩ (.iface 50 (.pointer (some ae))) := ⟨_, rfl⟩
    rw [← e2]
    have HR2 : Hid (W2.heap[bR]? = some (rdr bS bB 0 0 (.iface 50 (.pointer (some ae))) lb lr)) := by
      rw [e2, setCell_block ((hT.block bR hnb).trans HR1.out) 4]; exact hid (by simp)
    have HT2 : Hid (Tch [bR] w W2) := by rw [e2]; exact hid ((HT1.out.drew.trans (hT.mono (by simp))).setCell (by simp) _)
    clear e2 c0 c1 c4 z4 d0 d1 d4 y4 hT HR1 HS1 HT1 HC
    rename_i hx; clear hx
    go_wp2_with fail
    refine (rerr bR bS bB 0 0 (.iface 50 (.pointer (some ae))) lb lr W2 HR2.out).mono ?_
    rintro e w3 ⟨rfl, hR3, hT3⟩
    have HR3 := hid hR3
    have HT3 := hid hT3
    clear hR3 hT3
    go_wp2
    go_ret2
    exact ⟨rfl, ⟨0, lb, lr, Nat.zero_le _, HR3.out⟩, HT2.out.trans HT3.out⟩
end Go.Proofs.Qxb6616163aDoor.rd
