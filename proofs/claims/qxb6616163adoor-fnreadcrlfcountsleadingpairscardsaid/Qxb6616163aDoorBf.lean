import Derived.Test.Qxb6616163aDoorBr
namespace Go.Proofs.Qxb6616163aDoor.rd
open Go.ChangeShapes Go.WideShapes Go.ChangeAt Go.RowKit

theorem areBytes_seg (s : ByteArray) (i k : Nat) : AreBytes (seg s i k) := by
  intro j x hx
  simp only [seg, Lib.byteCells, List.getElem?_map, Option.map_eq_some_iff] at hx
  obtain ⟨a, _, rfl⟩ := hx
  exact ⟨_, rfl⟩
theorem areBytes_append {a b : List Value} (ha : AreBytes a) (hb : AreBytes b) : AreBytes (a ++ b) := by
  intro j x hx
  rw [List.getElem?_append] at hx
  split at hx
  · exact ha j x hx
  · exact hb _ x hx
theorem areBytes_take {a : List Value} (ha : AreBytes a) (n : Nat) : AreBytes (a.take n) := by
  have h := areBytes_sub ha 0 n
  simpa using h
theorem areBytes_drop {a : List Value} (ha : AreBytes a) (n : Nat) : AreBytes (a.drop n) := by
  intro j x hx
  rw [List.getElem?_drop] at hx
  exact ha _ x hx
theorem areBytes_splice {a b : List Value} (ha : AreBytes a) (hb : AreBytes b) (o : Nat) : AreBytes (splice a o b) :=
  areBytes_append (areBytes_take ha _) (areBytes_append hb (areBytes_drop ha _))

set_option maxRecDepth 100000 in
set_option maxHeartbeats 1000000 in
/-- The buffer is empty, the text is not at its end, the destination is shorter than the buffer: the buffer is filled, then read. -/
theorem bread_fill (bR bS bB d off m c r i n k : Nat) (td : TypeId) (lb lr pr : Int) (s : ByteArray) (buf cur : List Value) (w : World)
    (hR : w.heap[bR]? = some (rdr bS bB r r .nilIface lb lr)) (hS : w.heap[bS]? = some (.cells #[.string s, .int .i64 i, .int .i64 pr] 39 (0, 0))) (hB : w.heap[bB]? = some (.cells buf.toArray 5 (0, 0))) (hd : w.heap[d]? = some (.cells cur.toArray td (0, 0)))
    (hdR : d ≠ bR) (hdB : d ≠ bB) (hdS : d ≠ bS) (hBR : bB ≠ bR) (hBS : bB ≠ bS) (hSR : bS ≠ bR) (hlen : buf.length = 4096) (hby : AreBytes buf) (hm : 1 ≤ m) (hm2 : m < 4096) (hfit : off + m ≤ cur.length)
    (hi : i < s.size) (hs : s.size ≤ 65536) (hn : n = Nat.min (s.size - i) 4096) (hk : k = Nat.min n m) :
    Calls Tryd.prog 31 #[.pointer (some ⟨bR, 0, none⟩), .slice (some ⟨d, off, none⟩) m c] w fun e w' => e = .returned (.tuple #[.int .i64 k, .nilIface]) ∧
      (∃ lb', w'.heap[bR]? = some (rdr bS bB k n .nilIface lb' (-1))) ∧ w'.heap[bS]? = some (.cells #[.string s, .int .i64 ((i + n : Nat) : Int), .int .i64 (-1)] 39 (0, 0)) ∧
      w'.heap[bB]? = some (.cells (splice buf 0 (seg s i n)).toArray 5 (0, 0)) ∧ w'.heap[d]? = some (.cells (splice cur off ((splice buf 0 (seg s i n)).take k)).toArray td (0, 0)) ∧ Tch [bR, bS, bB, d] w w' := by
  have c0 : w.cell? ⟨bR, 0, none⟩ = some (.slice (some ⟨bB, 0, none⟩) 4096 4096) := cell_of hR rfl
  have c2 : w.cell? ⟨bR, 2, none⟩ = some (.int .i64 r) := cell_of hR rfl
  have c3 : w.cell? ⟨bR, 3, none⟩ = some (.int .i64 r) := cell_of hR rfl
  have c4 : w.cell? ⟨bR, 4, none⟩ = some .nilIface := cell_of hR rfl
  have z2 : w.frozen? ⟨bR, 2, none⟩ = false := free_of hR
  have z3 : w.frozen? ⟨bR, 3, none⟩ = false := free_of hR
  have hm' : ((m : Int) == 0) = false := beq_eq_false_iff_ne.2 (by omega)
  have hm3 : ¬ (4096 : Int) ≤ (m : Int) := by omega
  have HR := hid hR
  have HS := hid hS
  have HB := hid hB
  have HD := hid hd
  have HH := hid (And.intro hlen (And.intro hby (And.intro hm (And.intro hm2 (And.intro hfit (And.intro hi (And.intro hs (And.intro hn hk))))))))
  clear hR hS hB hd hlen hby hm hm2 hfit hi hs hn hk
  go_enter Tryd.func31, Tryd.ntmps31
  go_wp2
  go_quiet (fail)
  go_wp2
  obtain ⟨W1, e1⟩ : ∃ W, W = ((w.drewN nq).setCell ⟨bR, 2, none⟩ (.int .i64 0)).setCell ⟨bR, 3, none⟩ (.int .i64 0) := ⟨_, rfl⟩
  rw [← e1]
  have HR1 : Hid (W1.heap[bR]? = some (rdr bS bB 0 0 .nilIface lb lr)) := by
    rw [e1, setCell_block (setCell_block (w := w.drewN nq) HR.out 2 (.int .i64 0)) 3 (.int .i64 0)]; exact hid (by simp)
  have HS1 : Hid (W1.heap[bS]? = some (.cells #[.string s, .int .i64 i, .int .i64 pr] 39 (0, 0))) := by
    rw [e1]; exact hid (((Below.heap_setCell _ _ _ _ hSR).trans (Below.heap_setCell _ _ _ _ hSR)).trans HS.out)
  have HB1 : Hid (W1.heap[bB]? = some (.cells buf.toArray 5 (0, 0))) := by
    rw [e1]; exact hid (((Below.heap_setCell _ _ _ _ hBR).trans (Below.heap_setCell _ _ _ _ hBR)).trans HB.out)
  have HD1 : Hid (W1.heap[d]? = some (.cells cur.toArray td (0, 0))) := by
    rw [e1]; exact hid (((Below.heap_setCell _ _ _ _ hdR).trans (Below.heap_setCell _ _ _ _ hdR)).trans HD.out)
  have HT1 : Hid (Tch [bR, bS, bB, d] w W1) := by rw [e1]; exact hid ((((Tch.refl _ _).drewN _).setCell (by simp) _).setCell (by simp) _)
  clear e1 c0 c2 c3 c4 z2 z3 HR HS HB HD
  have c0 : W1.cell? ⟨bR, 0, none⟩ = some (.slice (some ⟨bB, 0, none⟩) 4096 4096) := cell_of HR1.out rfl
  have c1 : W1.cell? ⟨bR, 1, none⟩ = some (.iface 28 (.pointer (some ⟨bS, 0, none⟩))) := cell_of HR1.out rfl
  have c4 : W1.cell? ⟨bR, 4, none⟩ = some .nilIface := cell_of HR1.out rfl
  have z4 : W1.frozen? ⟨bR, 4, none⟩ = false := free_of HR1.out
  have hnb : bR ∉ [bS, bB] := by simp; exact ⟨fun e => hSR e.symm, fun e => hBR e.symm⟩
  have HC : Hid (∀ W : World, Tch [] W1 W → Calls Tryd.prog 36 #[.pointer (some ⟨bS, 0, none⟩), .slice (some ⟨bB, 0, none⟩) 4096 4096] W fun e w' => e = .returned (.tuple #[.int .i64 n, .nilIface]) ∧
      w'.heap[bS]? = some (.cells #[.string s, .int .i64 ((i + n : Nat) : Int), .int .i64 (-1)] 39 (0, 0)) ∧ w'.heap[bB]? = some (.cells (splice buf 0 (seg s i n)).toArray 5 (0, 0)) ∧ Tch [bS, bB] W w') := by
    intro W hW
    obtain ⟨q1, q2, q3, q4, q5, q6, q7, q8, q9⟩ := HH.out
    exact sread_some bS bB 0 4096 4096 i n 5 pr s buf W ((hW.block bS (by simp)).trans HS1.out) ((hW.block bB (by simp)).trans HB1.out) hBS (by omega) q6 q7 q8
  go_region_held3 (fun w' => w'.cell? ⟨bR, 0, none⟩ = some (.slice (some ⟨bB, 0, none⟩) 4096 4096) ∧ w'.cell? ⟨bR, 1, none⟩ = some (.iface 28 (.pointer (some ⟨bS, 0, none⟩)))) (first | go_keep | exact ⟨d0, d1⟩ | (refine ⟨?_, ?_⟩ <;> (rw [World.cell?_setCell_other _ _ _ _ (by simp)]; first | exact d0 | exact d1))) ((go_at_call 36; refine (HC.out _ ((Tch.refl _ _).drew)).mono ?_; rintro e w' ⟨rfl, hS, hB, hT⟩; have d0 := (hT.cell (p := ⟨bR, 0, none⟩) hnb).trans c0; have d1 := (hT.cell (p := ⟨bR, 1, none⟩) hnb).trans c1; have d4 : w'.cell? ⟨bR, 4, none⟩ = some .nilIface := (hT.cell hnb).trans c4; have y4 : w'.frozen? ⟨bR, 4, none⟩ = false := (hT.frozen hnb).trans z4))
  obtain ⟨W2, e2⟩ : ∃ W, W = w'.setCell ⟨bR, 4, none⟩ .nilIface := ⟨_, rfl⟩
  rw [← e2]
  have HR2 : Hid (W2.heap[bR]? = some (rdr bS bB 0 0 .nilIface lb lr)) := by
    rw [e2, setCell_block ((hT.block bR hnb).trans HR1.out) 4 .nilIface]; exact hid (by simp)
  have HS2 : Hid (W2.heap[bS]? = some (.cells #[.string s, .int .i64 ((i + n : Nat) : Int), .int .i64 (-1)] 39 (0, 0))) := by rw [e2]; exact hid ((Below.heap_setCell _ _ _ _ hSR).trans hS)
  have HB2 : Hid (W2.heap[bB]? = some (.cells (splice buf 0 (seg s i n)).toArray 5 (0, 0))) := by rw [e2]; exact hid ((Below.heap_setCell _ _ _ _ hBR).trans hB)
  have HD2 : Hid (W2.heap[d]? = some (.cells cur.toArray td (0, 0))) := by rw [e2]; exact hid (((Below.heap_setCell _ _ _ _ hdR).trans (hT.block d (by simp; exact ⟨hdS, hdB⟩))).trans HD1.out)
  have HT2 : Hid (Tch [bR, bS, bB, d] w W2) := by rw [e2]; exact hid ((HT1.out.drew.trans (hT.mono (by simp))).setCell (by simp) _)
  clear e2 c0 c1 c4 z4 d0 d1 d4 y4 hS hB hT HR1 HS1 HB1 HD1 HT1 HC
  rename_i hx; clear hx
  have hn1 : 1 ≤ n ∧ n ≤ 4096 ∧ n ≤ s.size - i := by
    obtain ⟨q1, q2, q3, q4, q5, q6, q7, q8, q9⟩ := HH.out
    rw [q8]
    exact ⟨Nat.le_min.2 ⟨by omega, by decide⟩, Nat.min_le_right _ _, Nat.min_le_left _ _⟩
  have HN := hid hn1
  have b1 : (1 : Int) ≤ (n : Int) := by omega
  have b2 : (n : Int) ≤ 4096 := by omega
  have hn0 : ((n : Int) == 0) = false := beq_eq_false_iff_ne.2 (by omega)
  clear hn1
  have c3 : W2.cell? ⟨bR, 3, none⟩ = some (.int .i64 0) := cell_of HR2.out rfl
  have z3 : W2.frozen? ⟨bR, 3, none⟩ = false := free_of HR2.out
  go_wp2
  obtain ⟨bf, hbf⟩ : ∃ bf, bf = splice buf 0 (seg s i n) := ⟨_, rfl⟩
  have HBF := hid hbf
  have hfl : bf.length = 4096 ∧ AreBytes bf := by
    obtain ⟨q1, q2, q3, q4, q5, q6, q7, q8, q9⟩ := HH.out
    rw [hbf]
    refine ⟨?_, areBytes_splice q2 (areBytes_seg s i n) 0⟩
    have h1 := seg_length s i n (by have := HN.out; omega)
    rw [length_splice _ _ _ (by rw [h1, q1]; have := HN.out; omega), q1]
  have HFL := hid hfl
  clear hfl
  obtain ⟨W3, e3⟩ : ∃ W, W = W2.setCell ⟨bR, 3, none⟩ (.int .i64 n) := ⟨_, rfl⟩
  rw [← e3]
  have HR3 : Hid (W3.heap[bR]? = some (rdr bS bB 0 n .nilIface lb lr)) := by rw [e3, setCell_block HR2.out 3]; exact hid (by simp)
  have HS3 : Hid (W3.heap[bS]? = some (.cells #[.string s, .int .i64 ((i + n : Nat) : Int), .int .i64 (-1)] 39 (0, 0))) := by rw [e3]; exact hid ((Below.heap_setCell _ _ _ _ hSR).trans HS2.out)
  have HB3 : Hid (W3.heap[bB]? = some (.cells bf.toArray 5 (0, 0))) := by rw [e3, hbf]; exact hid ((Below.heap_setCell _ _ _ _ hBR).trans HB2.out)
  have HD3 : Hid (W3.heap[d]? = some (.cells cur.toArray td (0, 0))) := by rw [e3]; exact hid ((Below.heap_setCell _ _ _ _ hdR).trans HD2.out)
  have HT3 : Hid (Tch [bR, bS, bB, d] w W3) := by rw [e3]; exact hid (HT2.out.setCell (by simp) _)
  clear e3 hbf c3 z3 HR2 HS2 HB2 HD2 HT2
  have HC : Hid (∀ W : World, W.heap[d]? = some (.cells cur.toArray td (0, 0)) → W.heap[bB]? = some (.cells bf.toArray 5 (0, 0)) → (Builtin.copy_ #[30, 30] 3 #[.slice (some ⟨d, off, none⟩) m c, .slice (some ⟨bB, 0, none⟩) n 4096]).run Tryd.prog W = .ok (goInt k) (W.setRow d (splice cur off (bf.take k)).toArray)) := by
    intro W h1 h2
    obtain ⟨q1, q2, q3, q4, q5, q6, q7, q8, q9⟩ := HH.out
    obtain ⟨p1, p2, p3⟩ := HN.out
    have hkm : k ≤ m := by rw [q9]; exact Nat.min_le_right _ _
    have hkn : k ≤ n := by rw [q9]; exact Nat.min_le_left _ _
    have h := run_copy_rows W 30 30 3 5 d off m c bB 0 n 4096 cur bf td 5 k Tryd.underlying30 (by kernel_rfl) h1 h2 q9 (by omega) (by rw [HFL.out.1]; omega) HFL.out.2
    simpa using h
  have c0 : W3.cell? ⟨bR, 0, none⟩ = some (.slice (some ⟨bB, 0, none⟩) 4096 4096) := cell_of HR3.out rfl
  have c2 : W3.cell? ⟨bR, 2, none⟩ = some (.int .i64 0) := cell_of HR3.out rfl
  have c3 : W3.cell? ⟨bR, 3, none⟩ = some (.int .i64 n) := cell_of HR3.out rfl
  go_region_held3 (fun w' => w'.cell? ⟨bR, 0, none⟩ = some (.slice (some ⟨bB, 0, none⟩) 4096 4096) ∧ w'.cell? ⟨bR, 2, none⟩ = some (.int .i64 0) ∧ w'.cell? ⟨bR, 3, none⟩ = some (.int .i64 n)) (first | go_keep | (refine ⟨?_, ?_, ?_⟩ <;> (rw [cell_setRow_other _ _ _ _ (fun e => hdR e.symm)]; first | exact c0 | exact c2 | exact c3))) ((refine step_copy_run (by rfl) _ _ _ _ (by rfl) _ _ (by rfl) (by rfl) (HC.out _ HD3.out HB3.out) ?_))
  obtain ⟨W4, e4⟩ : ∃ W, W = W3.drew.setRow d (splice cur off (bf.take k)).toArray := ⟨_, rfl⟩
  rw [← e4]
  have HR4 : Hid (W4.heap[bR]? = some (rdr bS bB 0 n .nilIface lb lr)) := by rw [e4]; exact hid ((setRow_other _ _ _ _ (fun e => hdR e.symm)).trans HR3.out)
  have HS4 : Hid (W4.heap[bS]? = some (.cells #[.string s, .int .i64 ((i + n : Nat) : Int), .int .i64 (-1)] 39 (0, 0))) := by rw [e4]; exact hid ((setRow_other _ _ _ _ (fun e => hdS e.symm)).trans HS3.out)
  have HB4 : Hid (W4.heap[bB]? = some (.cells bf.toArray 5 (0, 0))) := by rw [e4]; exact hid ((setRow_other _ _ _ _ (fun e => hdB e.symm)).trans HB3.out)
  have HD4 : Hid (W4.heap[d]? = some (.cells (splice cur off (bf.take k)).toArray td (0, 0))) := by rw [e4]; exact hid (setRow_heap W3.drew d _ _ td (0, 0) HD3.out)
  have HT4 : Hid (Tch [bR, bS, bB, d] w W4) := by rw [e4]; exact hid (HT3.out.drew.setRow (by simp) _)
  clear e4 c0 c2 c3 HR3 HS3 HB3 HD3 HT3 HC
  rename_i hx; clear hx
  have hk1 : 1 ≤ k ∧ k ≤ n := by
    obtain ⟨q1, q2, q3, q4, q5, q6, q7, q8, q9⟩ := HH.out
    rw [q9]
    exact ⟨Nat.le_min.2 ⟨HN.out.1, q3⟩, Nat.min_le_left _ _⟩
  have HKK := hid hk1
  have b4 : (1 : Int) ≤ (k : Int) := by omega
  have b5 : (k : Int) ≤ 4096 := by omega
  clear hk1
  have c2 : W4.cell? ⟨bR, 2, none⟩ = some (.int .i64 0) := cell_of HR4.out rfl
  have z2 : W4.frozen? ⟨bR, 2, none⟩ = false := free_of HR4.out
  go_wp2
  obtain ⟨W5, e5⟩ : ∃ W, W = W4.setCell ⟨bR, 2, none⟩ (.int .i64 k) := ⟨_, rfl⟩
  rw [← e5]
  have HR5 : Hid (W5.heap[bR]? = some (rdr bS bB k n .nilIface lb lr)) := by rw [e5, setCell_block HR4.out 2]; exact hid (by simp)
  have HS5 : Hid (W5.heap[bS]? = some (.cells #[.string s, .int .i64 ((i + n : Nat) : Int), .int .i64 (-1)] 39 (0, 0))) := by rw [e5]; exact hid ((Below.heap_setCell _ _ _ _ hSR).trans HS4.out)
  have HB5 : Hid (W5.heap[bB]? = some (.cells bf.toArray 5 (0, 0))) := by rw [e5]; exact hid ((Below.heap_setCell _ _ _ _ hBR).trans HB4.out)
  have HD5 : Hid (W5.heap[d]? = some (.cells (splice cur off (bf.take k)).toArray td (0, 0))) := by rw [e5]; exact hid ((Below.heap_setCell _ _ _ _ hdR).trans HD4.out)
  have HT5 : Hid (Tch [bR, bS, bB, d] w W5) := by rw [e5]; exact hid (HT4.out.setCell (by simp) _)
  clear e5 c2 z2 HR4 HS4 HB4 HD4 HT4
  obtain ⟨x, hx⟩ : ∃ n : Int, bf[k - 1]? = some (.int .u8 n) := by
    have p1 := HKK.out
    have p2 := HN.out
    have p3 := HFL.out.1
    obtain ⟨y, hy⟩ := HFL.out.2 (k - 1) bf[k - 1] (List.getElem?_eq_getElem (by omega))
    exact ⟨y, by rw [List.getElem?_eq_getElem (by omega), hy]⟩
  have c0 : W5.cell? ⟨bR, 0, none⟩ = some (.slice (some ⟨bB, 0, none⟩) 4096 4096) := cell_of HR5.out rfl
  have c2 : W5.cell? ⟨bR, 2, none⟩ = some (.int .i64 k) := cell_of HR5.out rfl
  have c5 : W5.cell? ⟨bR, 5, none⟩ = some (.int .i64 lb) := cell_of HR5.out rfl
  have c6 : W5.cell? ⟨bR, 6, none⟩ = some (.int .i64 lr) := cell_of HR5.out rfl
  have z5 : W5.frozen? ⟨bR, 5, none⟩ = false := free_of HR5.out
  have z6 : W5.frozen? ⟨bR, 6, none⟩ = false := free_of HR5.out
  have hj : ((k : Int) - 1).toNat = k - 1 := by omega
  have b6 : (0 : Int) ≤ (k : Int) - 1 := by omega
  have b7 : (k : Int) - 1 < 4096 := by omega
  have cx : W5.cell? ⟨bB, k - 1, none⟩ = some (.int .u8 x) := cell_of HB5.out (by simpa using hx)
  have HX := hid hx
  clear hx
  go_region
  go_wp2
  go_ret2
  refine ⟨rfl, ⟨wrap64 x, ?_⟩, ?_, ?_, ?_, ((HT5.out.setCell (by simp) _).setCell (by simp) _).drew⟩
  · have e := setCell_block (setCell_block HR5.out 5 (.int .i64 (wrap64 x))) 6 (.int .i64 (-1))
    exact e.trans (by simp)
  · exact ((Below.heap_setCell _ _ _ _ hSR).trans (Below.heap_setCell _ _ _ _ hSR)).trans HS5.out
  · rw [← HBF.out]; exact ((Below.heap_setCell _ _ _ _ hBR).trans (Below.heap_setCell _ _ _ _ hBR)).trans HB5.out
  · rw [← HBF.out]; exact ((Below.heap_setCell _ _ _ _ hdR).trans (Below.heap_setCell _ _ _ _ hdR)).trans HD5.out
end Go.Proofs.Qxb6616163aDoor.rd
