import Derived.Test.Qxb6616163aDoorRa
namespace Go.Proofs.Qxb6616163aDoor.rd
open Go.ChangeShapes Go.WideShapes Go.ChangeAt Go.RowKit
theorem info30 : (Tryd.prog.info? 30).map (fun i => (i.zero, i.size, i.bytes)) = some (some (.slice none 0 0), 1, 24) := by kernel_rfl
/-- The length of a slice. -/
def lenOf (v : Value) : Nat := match v with
  | .slice _ n _ => n
  | _ => 0
/-- io.ReadAll at its loop's head. -/
def RA (bR bS bB p0 : Nat) (s : ByteArray) (w0 : World) (b next chunks fs : Value) (wr : World) : Prop :=
  ∃ (g len cap nx f : Nat) (cur : List Value) (cs : List Chunk) (row : Value), b = .slice (some ⟨g, 0, none⟩) len cap ∧ next = .int .i64 nx ∧ row = chunks ∧ fs = .int .i64 f ∧ RM bR bS bB p0 s w0 g len cap nx f cur cs row wr ∧ len < cap
theorem one_cell (w : World) (x : Value) (t : TypeId) : ∀ j u, [x][j]? = some u → (w.alloc (.cells #[x] t)).cell? ((⟨w.heap.size, 0, none⟩ : Addr).add j) = some u := by
  intro j u hj
  match j, hj with
  | 0, hj => simp at hj; subst hj; simp [Addr.add]
theorem RM.start {bR bS bB p0 : Nat} {s : ByteArray} {w0 w1 w2 : World} (hst : St bR bS bB s p0 w0) (hb : ∀ x ∈ [bR, bS, bB], x < w0.heap.size)
    (hown1 : w1.ownsRow w0.heap.size 5 1 (.slice (some ⟨w0.heap.size, 0, none⟩) 0 512) 0 []) (hgrow1 : w0.grownBy w1 none) (hown2 : w2.ownsRow w0.heap.size 30 1 (.slice (some ⟨w1.heap.size, 0, none⟩) 0 4) 0 []) (hgrow2 : w1.grownBy w2 none) :
    ∃ cur, RM bR bS bB p0 s w0 w0.heap.size 0 512 256 0 cur [] (.slice (some ⟨w1.heap.size, 0, none⟩) 0 4) w2 := by
  rcases hown1.2 with ⟨h, _⟩ | ⟨g, cap, cur, hv, _, hg, _, _, hcs, _⟩
  · simp at h
  · simp only [Value.slice.injEq, Option.some.injEq, Addr.mk.injEq, and_true, true_and] at hv
    obtain ⟨rfl, rfl⟩ := hv
    have hlt : w0.heap.size < w1.heap.size := (Array.getElem?_eq_some_iff.1 hg).1
    have hz : ∀ x, x < w0.heap.size → w2.heap[x]? = w0.heap[x]? := fun x hx => (hgrow2.block x (by omega) (by simp)).trans (hgrow1.block x hx (by simp))
    refine ⟨cur.toList, { cell := ?_, clen := ?_, dat := by simp [seg, Lib.byteCells], own := hown2, ck := fun c hc => (by cases hc), flat := by simp [seg, Lib.byteCells], rg := ?_, gg := Nat.le_refl _, st := ?_, grw := ((Grw.refl _ _).grown hgrow1 (by simp)).grown hgrow2 (by simp), lc := Nat.zero_le _, c256 := by decide, cmx := by decide, n3 := by decide, n256 := by decide, nf := by decide, cf := Nat.le_refl _ }⟩
    · rw [hgrow2.block _ hlt (by simp)]; simpa using hg
    · rw [Array.length_toList, hcs]
    · simp [Value.ownBlock]; omega
    · exact hst.later (hz _ (hb _ (by simp))) (hz _ (hb _ (by simp))) (hz _ (hb _ (by simp)))

/-- 'append([]byte(nil), make([]byte, n)...)': a new row, as long as the tape says. -/
theorem zeros (w : World) (n : Nat) (h0 : 0 < n) (hn : n ≤ 1000000) : ∃ cap cur W, (Builtin.append_ #[30, 3] 30 #[.slice none 0 0, .int .i64 n]).run Tryd.prog w = .ok (.slice (some ⟨w.heap.size, 0, none⟩) n cap) W ∧ W = w.drew.alloc (.cells (cur : List Value).toArray 5) ∧ cur.length = cap ∧ n ≤ cap ∧ cap ≤ maxLen := by
  obtain ⟨i5, hi, hz0, hz1, hz2⟩ := info_parts info5
  have h := Lib.run_append_nil_zeros (P := Tryd.prog) w 30 3 30 5 i5 (.int .u8 0) .i64 .i64 Tryd.underlying30 Tryd.underlying3 hi hz0 n h0 (by rw [hz1]; decide) (by omega) (by rw [hz2]; omega)
  have hg := grownCap_ge w n 0 5
  refine ⟨_, (Builtin.zeroCells (Value.int .u8 0).cells n ++ Builtin.zeroCells (Value.int .u8 0).cells (grownCap w n 0 5 - n)).toList, _, h, by rw [Array.toArray_toList], ?_, hg, grownCap_le_maxLen w n 0 5 (by unfold maxLen; omega)⟩
  rw [Array.length_toList, Array.size_append, size_zeroCells, size_zeroCells]
  simp [Value.cells]
  omega

/-- Behind a read that gave nothing. -/
theorem RM.still {bR bS bB p0 : Nat} {s : ByteArray} {w0 : World} {g len cap nx f : Nat} {cur : List Value} {cs : List Chunk} {row : Value} {wr w' : World} (h : RM bR bS bB p0 s w0 g len cap nx f cur cs row wr)
    (hb : ∀ x ∈ [bR, bS, bB], x < w0.heap.size) (hst : St bR bS bB s (p0 + f + len) w') (hT : Tch [bR] wr w') : RM bR bS bB p0 s w0 g len cap nx f cur cs row w' := by
  have far : ∀ x, w0.heap.size ≤ x → x ∉ [bR] := by
    intro x hx hm
    rw [List.mem_singleton] at hm
    have := hb bR (by simp)
    omega
  refine { cell := (hT.block g (far g h.gg)).trans h.cell, clen := h.clen, dat := h.dat, own := own_block h.own (fun x hx => hT.block x (far x (h.own.lt x hx).1)), ck := fun c hc => ?_, flat := h.flat, rg := h.rg, gg := h.gg, st := hst, grw := ?_, lc := h.lc, c256 := h.c256, cmx := h.cmx, n3 := h.n3, n256 := h.n256, nf := h.nf, cf := h.cf }
  · obtain ⟨⟨c1, c2⟩, c3, c4, c5⟩ := h.ck c hc
    exact ⟨⟨(hT.block c.g (far c.g c4)).trans c1, c2⟩, c3, c4, c5⟩
  · refine h.grw.far hT fun x hx => .inl ?_
    rw [List.mem_singleton] at hx
    simp [hx]
theorem RM.f0 {bR bS bB p0 : Nat} {s : ByteArray} {w0 : World} {g len cap nx f : Nat} {cur : List Value} {row : Value} {wr : World} (h : RM bR bS bB p0 s w0 g len cap nx f cur [] row wr) : f = 0 := by
  have h1 := h.st.le
  have h2 := seg_length s p0 f (by omega)
  rw [← h.flat] at h2
  simpa using h2.symm

/-- What the first j chunks hold. -/
def acc (cs : List Chunk) (j : Nat) : List Value := (cs.take j).flatMap Chunk.bytes
theorem acc_succ {cs : List Chunk} {j : Nat} {c : Chunk} (h : cs[j]? = some c) : acc cs (j + 1) = acc cs j ++ c.bytes := by
  unfold acc
  rw [List.take_add_one, h]
  simp
theorem acc_all (cs : List Chunk) : acc cs cs.length = cs.flatMap Chunk.bytes := by
  unfold acc
  rw [List.take_length]
theorem acc_le (cs : List Chunk) (j : Nat) : (acc cs j).length ≤ (cs.flatMap Chunk.bytes).length := by
  have h : cs.flatMap Chunk.bytes = acc cs j ++ (cs.drop j).flatMap Chunk.bytes := by
    unfold acc
    rw [← List.flatMap_append, List.take_append_drop]
  rw [h, List.length_append]
  omega
/-- The putting together, j chunks in. -/
structure FN (w' : World) (cs : List Chunk) (fv : Value) (j : Nat) (wr : World) : Prop where
  own : wr.ownsRow w'.heap.size 5 1 fv (acc cs j).length (acc cs j)
  grw : Grw [] w' wr
theorem FN.start {w' : World} {cs : List Chunk} {cap : Nat} {cur : List Value} {W : World} (hW : W = w'.drew.alloc (.cells cur.toArray 5)) (hc : cur.length = cap) (hm : cap ≤ maxLen) : FN w' cs (.slice (some ⟨w'.heap.size, 0, none⟩) 0 cap) 0 W := by
  subst hW
  refine ⟨⟨by simp, .inr ⟨w'.heap.size, cap, cur.toArray, by simp [acc], Nat.le_refl _, heap_alloc_new w'.drew _, by simp [acc], hm, by simp [hc], by simp [acc]⟩⟩, ((Grw.refl [] w').drew).alloc _⟩
theorem FN.next {w' : World} {cs : List Chunk} {fv fv' : Value} {j : Nat} {wr wn : World} {c : Chunk} (h : FN w' cs fv j wr) (hc : cs[j]? = some c) (hl : c.len ≤ c.data.length)
    (hown : wn.ownsRow w'.heap.size 5 1 fv' ((acc cs j).length + c.len) (acc cs j ++ c.bytes)) (hg : wr.grownBy wn fv.ownBlock) : FN w' cs fv' (j + 1) wn := by
  refine ⟨?_, h.grw.grown hg (fun x hx => (h.own.lt x hx).1)⟩
  have hb : c.bytes.length = c.len := by rw [Chunk.bytes, List.length_take]; omega
  rw [acc_succ hc, List.length_append, hb]
  exact hown
theorem Grw.weak {l : List Nat} {a b : World} (h : Grw [] a b) : Grw l a b := ⟨h.os, h.tape, h.output, h.size, fun k hk _ => h.block k hk (by simp)⟩
theorem RM.cells {bR bS bB p0 : Nat} {s : ByteArray} {w0 : World} {g len cap nx f : Nat} {cur : List Value} {cs : List Chunk} {row : Value} {w' wr : World} (h : RM bR bS bB p0 s w0 g len cap nx f cur cs row w')
    (k : Grw [] w' wr) : ∀ i u, (seg s (p0 + f) len)[i]? = some u → wr.cell? ((⟨g, 0, none⟩ : Addr).add i) = some u := by
  intro i u hi
  have hblk : wr.heap[g]? = some (.cells cur.toArray 5 (0, 0)) := (k.block _ (Array.getElem?_eq_some_iff.1 h.cell).1 (by simp)).trans h.cell
  have h3 := cell_of_row wr g i _ 5 (0, 0) hblk
  rw [show ((⟨g, 0, none⟩ : Addr).add i) = ⟨g, i, none⟩ by simp [Addr.add]; omega, h3]
  rw [← h.dat, List.getElem?_take] at hi
  split at hi
  · simpa using hi
  · cases hi
theorem RM.chunk {bR bS bB p0 : Nat} {s : ByteArray} {w0 : World} {g len cap nx f : Nat} {cur : List Value} {cs : List Chunk} {rc rcap : Nat} {w' wr : World} (h : RM bR bS bB p0 s w0 g len cap nx f cur cs (.slice (some ⟨rc, 0, none⟩) cs.length rcap) w')
    (k : Grw [] w' wr) {j : Nat} (hj : j < cs.length) : ∃ cg cl cc cd, cs[j]? = some ⟨cg, cl, cc, cd⟩ ∧ wr.cell? ⟨rc, j, none⟩ = some (.slice (some ⟨cg, 0, none⟩) cl cc) ∧ cl ≤ cd.length ∧
      (∀ i u, (cd.take cl)[i]? = some u → wr.cell? ((⟨cg, 0, none⟩ : Addr).add i) = some u) ∧ (∀ u ∈ cd.take cl, u.oneCell' = true) ∧ (acc cs j).length + cl ≤ f := by
  have hjs : cs[j]? = some cs[j] := List.getElem?_eq_getElem hj
  obtain ⟨⟨c1, c2⟩, c3, c4, c5⟩ := h.ck cs[j] (List.getElem_mem hj)
  have hsl := seg_length s p0 f (by have := h.st.le; omega)
  have h1 : ∀ u ∈ (cs[j]).bytes, u.oneCell' = true := by
    intro u hu
    refine seg_one s p0 f u ?_
    rw [← h.flat, List.mem_flatMap]
    exact ⟨_, List.getElem_mem hj, hu⟩
  have hal := acc_le cs (j + 1)
  rw [h.flat, hsl, acc_succ hjs, List.length_append, Chunk.bytes, List.length_take, Nat.min_eq_left c2] at hal
  have hcell : wr.cell? ⟨rc, j, none⟩ = some (cs[j]).val := by
    rw [k.cell (p := ⟨rc, j, none⟩) ((h.own.lt rc rfl).2) (by simp), h.own.cellAt j (by omega), List.getElem?_map, hjs]
    rfl
  have hblk : wr.heap[(cs[j]).g]? = some (.cells (cs[j]).data.toArray 5 (0, 0)) := (k.block _ (Array.getElem?_eq_some_iff.1 c1).1 (by simp)).trans c1
  refine ⟨(cs[j]).g, (cs[j]).len, (cs[j]).cap, (cs[j]).data, hjs, hcell, c2, fun i u hi => ?_, h1, hal⟩
  have h3 := cell_of_row wr (cs[j]).g i _ 5 (0, 0) hblk
  rw [show ((⟨(cs[j]).g, 0, none⟩ : Addr).add i) = ⟨(cs[j]).g, i, none⟩ by simp [Addr.add]; omega, h3]
  rw [List.getElem?_take] at hi
  split at hi
  · simpa using hi
  · cases hi

set_option maxRecDepth 100000 in
set_option maxHeartbeats 2000000 in
/-- io.ReadAll over the reader: all that is left. -/
theorem readAll (bR bS bB p0 : Nat) (s : ByteArray) (ae : Addr) (w0 : World) (hst : St bR bS bB s p0 w0) (hb : ∀ x ∈ [bR, bS, bB], 4 ≤ x ∧ x < w0.heap.size) (he : w0.cell? ⟨0, 0, none⟩ = some (errV ae)) :
    Calls Tryd.prog 11 #[.iface 23 (.pointer (some ⟨bR, 0, none⟩))] w0 fun e w' => ∃ g cap data, e = .returned (.tuple #[.slice (some ⟨g, 0, none⟩) (s.size - p0) cap, .nilIface]) ∧ w'.heap[g]? = some (.cells (data : List Value).toArray 5 (0, 0)) ∧
      data.take (s.size - p0) = seg s p0 (s.size - p0) ∧ Grw [bR, bS, bB] w0 w' := by
  obtain ⟨i5, hi, hz0, hz1, hz2⟩ := info_parts info5
  have HI : Hid (Tryd.prog.info? 5 = some i5 ∧ i5.zero = some (.int .u8 0) ∧ i5.size = 1 ∧ i5.bytes = 1) := ⟨hi, hz0, hz1, hz2⟩
  clear hi hz0 hz1 hz2
  obtain ⟨i30, hi, hz0, hz1, hz2⟩ := info_parts info30
  have HJ : Hid (Tryd.prog.info? 30 = some i30 ∧ i30.zero = some (.slice none 0 0) ∧ i30.size = 1 ∧ i30.bytes = 24) := ⟨hi, hz0, hz1, hz2⟩
  clear hi hz0 hz1 hz2
  have HH := hid (And.intro hst (And.intro hb he))
  clear hst hb he
  go_enter Tryd.func11, Tryd.ntmps11
  go_wp2_with (at_make; refine wpList_make_own _ rfl _ _ 30 rfl w0.heap.size 5 i5 (.int .u8 0) 1 Tryd.underlying30 HI.out.1 HI.out.2.1 HI.out.2.2.1 _ _ _ 512 rfl rfl rfl (by rw [HI.out.2.2.2]; decide) (by decide) (Nat.le_refl _) ?_)
  intro w1 hown1 hgrow1
  have H1 := hid (And.intro hown1 hgrow1)
  clear hown1 hgrow1
  go_wp2_with (at_make; refine wpList_make_own _ rfl _ _ 43 rfl w0.heap.size 30 i30 (.slice none 0 0) 1 Tryd.underlying43 HJ.out.1 HJ.out.2.1 HJ.out.2.2.1 _ _ _ 4 rfl rfl rfl (by rw [HJ.out.2.2.2]; decide) (by decide) H1.out.2.size ?_)
  intro w2 hown2 hgrow2
  have HS := hid (RM.start HH.out.1 (fun x hx => (HH.out.2.1 x hx).2) H1.out.1 H1.out.2 hown2 hgrow2)
  clear hown2 hgrow2 H1
  go_wp2
  go_loopw [4, 5, 6, 7] (fun b next chunks fs wr => RA bR bS bB p0 s w0 b next chunks fs wr) (fun b _ _ fs _ => s.size + 1 - (p0 + (intOf fs).toNat + lenOf b))
  case atStart =>
    obtain ⟨cur, h⟩ := HS.out
    exact ⟨_, 0, 512, 256, 0, cur, [], _, rfl, rfl, rfl, rfl, h, by decide⟩
  case round =>
    obtain ⟨g, len, cap, nx, f, cur, cs, row, rfl, rfl, rfl, rfl, hrm, hlc⟩ := hrel
    have HR := hid hrm
    have HL := hid hlc
    clear HS
    have b1 : (0 : Int) ≤ (len : Int) := by omega
    have b2 : (len : Int) ≤ (cap : Int) := by omega
    have b3 : ¬ cap = len := by omega
    have b4 : (cap : Int) ≤ 9223372036854775807 := by have := hrm.cmx; unfold maxLen at this; omega
    clear hrm hlc
    go_wp2
    have hna := nil_ahead
    by_cases hlt : p0 + f + len < s.size
    · have HC : Hid (∀ W : World, Tch [] wr W → Calls Tryd.prog 31 #[.pointer (some ⟨bR, 0, none⟩), .slice (some ⟨g, len, none⟩) (cap - len) (cap - len)] W fun e w' => ∃ k, e = .returned (.tuple #[.int .i64 (k : Nat), .nilIface]) ∧ 1 ≤ k ∧ k ≤ cap - len ∧ p0 + f + len + k ≤ s.size ∧
          St bR bS bB s (p0 + f + len + k) w' ∧ w'.heap[g]? = some (.cells (splice cur len (seg s (p0 + f + len) k)).toArray 5 (0, 0)) ∧ Tch [bR, bS, bB, g] W w') := by
        intro W hW
        have h := HR.out
        have hl := HL.out
        have hm := h.cmx
        refine read_some bR bS bB g len (cap - len) (cap - len) (p0 + f + len) 5 s cur W (h.st.later (hW.block _ (by simp)) (hW.block _ (by simp)) (hW.block _ (by simp))) hlt ((hW.block _ (by simp)).trans h.cell) ?_ (by omega) (by omega) (by rw [h.clen]; omega)
        intro hg
        have := (HH.out.2.1 g hg).2
        have := h.gg
        omega
      go_region_held3 (fun _ => True) (first | trivial) ((go_at_call 31; refine (HC.out _ ((Tch.refl _ _).drew)).mono ?_; rintro e w' ⟨k, rfl, hk1, hk2, hk3, hst', hd', hT'⟩))
      have HM := hid (HR.out.read (fun x hx => (HH.out.2.1 x hx).2) (by have := HL.out; omega) hk3 hst' hd' ((Tch.refl _ _).drew.trans hT'))
      have HK := hid (And.intro hk1 (And.intro hk2 hk3))
      have hs6 := HR.out.st.1.2.2.2
      have b5 : (len : Int) + (k : Int) ≤ (cap : Int) := by have := HL.out; omega
      have b6 : (0 : Int) ≤ (len : Int) + (k : Int) := by omega
      have b7 : (f : Int) + ((len : Int) + (k : Int)) ≤ 65536 := by omega
      clear hk1 hk2 hk3 hst' hd' hT' HC hs6
      by_cases hfull : (cap : Int) - ((len : Int) + (k : Int)) < (cap : Int) / 16
      · obtain ⟨cur', hcur'⟩ : ∃ c, c = splice cur len (seg s (p0 + f + len) k) := ⟨_, rfl⟩
        have HM' : Hid (RM bR bS bB p0 s w0 g (len + k) cap nx f cur' cs row w') := by rw [hcur']; exact HM
        clear hcur' HM
        go_wp2_with (at_builtin; refine wpList_append_own_at _ rfl (.tmp 76) (.tmp 78) 43 rfl w0.heap.size 30 i30 (.slice none 0 0) 1 24 Tryd.underlying43 HJ.out.1 HJ.out.2.1 HJ.out.2.2.1 HJ.out.2.2.2 rfl (by decide) row cs.length _ rfl (HM'.out.own.alloc _) ⟨w'.heap.size, 0, none⟩ 1 1 [.slice (some ⟨g, 0, none⟩) (len + k) cap] rfl rfl (by exact one_cell w' _ _) (by simp [Value.oneCell']) (by have := HM'.out.cf; unfold maxLen; omega) (by have := HM'.out.cf; omega) (by rw [World.size_alloc]; have := HM'.out.grw.size; omega) ?_)
        intro row' w3 hown3 hgrow3 _ hat
        have H3 := hid (And.intro hown3 (And.intro hgrow3 hat))
        clear hown3 hgrow3 hat
        obtain ⟨capn, curn, W4, hrun, hW4, hc1, hc2, hc3⟩ := zeros w3 nx (by have := HM'.out.n256; omega) (by have := HM'.out.nf; omega)
        have H4 := hid (And.intro hrun (And.intro hW4 (And.intro hc1 (And.intro hc2 hc3))))
        have b8 : (nx : Int) ≤ (capn : Int) := by omega
        have b9 : (0 : Int) ≤ (capn : Int) := by omega
        have b10 : (nx : Int) ≤ 100000 := by have := HM'.out.nf; omega
        clear hrun hW4 hc1 hc2 hc3
        go_wp2_with (at_builtin; refine Lib.wpList_append_run _ rfl _ _ 30 3 rfl _ _ rfl rfl _ _ H4.out.1 ?_)
        obtain ⟨k1, k2, k3⟩ := HK.out
        obtain ⟨q1, q2, q3⟩ := H3.out
        obtain ⟨r1, r2, r3, r4, r5⟩ := H4.out
        have h := HM'.out.n256
        exact ⟨⟨w3.heap.size, 0, capn, nx + nx / 2, f + (len + k), curn, cs ++ [⟨g, len + k, cap, cur'⟩], row', rfl, by go_num, rfl, by go_num, HM'.out.next (fun x hx => (HH.out.2.1 x hx).2) (by omega) q1 q2 q3 r2 r3 r4 r5, by omega⟩, by simp [intOf, lenOf]; omega⟩
      · go_wp2
        obtain ⟨k1, k2, k3⟩ := HK.out
        have h := HR.out.c256
        exact ⟨⟨g, len + k, cap, nx, f, _, cs, row, rfl, rfl, rfl, rfl, HM.out, by omega⟩, by simp [intOf, lenOf]; omega⟩
    · have hend : p0 + f + len = s.size := by have := HR.out.st.le; omega
      have hce : wr.cell? ⟨0, 0, none⟩ = some (errV ae) := by
        have hb := HH.out.2.1
        have h4 := hb bR (by simp)
        rw [HR.out.grw.cell (p := ⟨0, 0, none⟩) (by show 0 < _; omega) (fun hm => by have := (hb 0 hm).1; omega)]
        exact HH.out.2.2
      have HC : Hid (∀ W : World, Tch [] wr W → Calls Tryd.prog 31 #[.pointer (some ⟨bR, 0, none⟩), .slice (some ⟨g, len, none⟩) (cap - len) (cap - len)] W fun e w' => e = .returned (.tuple #[.int .i64 0, errV ae]) ∧ St bR bS bB s (p0 + f + len) w' ∧ Tch [bR] W w') := by
        intro W hW
        have h := HR.out
        have hl := HL.out
        exact read_end bR bS bB (cap - len) (cap - len) (p0 + f + len) (some ⟨g, len, none⟩) ae s W (h.st.later (hW.block _ (by simp)) (hW.block _ (by simp)) (hW.block _ (by simp))) hend ((hW.cell (by simp)).trans hce) (by omega)
      obtain ⟨ra, rcap, hrow⟩ : ∃ ra rcap, row = .slice ra cs.length rcap := by
        rcases HR.out.own.2 with ⟨h, h0⟩ | ⟨g', c', _, h, _⟩
        · exact ⟨none, 0, by rw [h, h0]⟩
        · exact ⟨_, _, h⟩
      subst hrow
      have HE := hid hend
      have HCE := hid hce
      clear hend hce
      go_region_held3 (fun _ => True) (first | trivial) ((go_at_call 31; refine (HC.out _ ((Tch.refl _ _).drew)).mono ?_; rintro e w' ⟨rfl, hst', hT'⟩))
      have HM := hid (HR.out.still (fun x hx => (HH.out.2.1 x hx).2) hst' ((Tch.refl _ _).drew.trans hT'))
      have ce : w'.cell? ⟨0, 0, none⟩ = some (errV ae) := by
        have h4 := HH.out.2.1 bR (by simp)
        rw [hT'.cell (p := ⟨0, 0, none⟩) (by simp; omega)]
        exact HCE.out
      clear hst' hT' HC HCE HR
      have heq := err_same ae
      have hs6 := HM.out.st.1.2.2.2
      have b7 : (f : Int) + (len : Int) ≤ 65536 := by have := HE.out; omega
      clear hs6
      by_cases hcs : cs = []
      · subst hcs
        go_wp2
        go_ret2
        have hf := HM.out.f0
        have hE := HE.out
        have hd := HM.out.dat
        subst hf
        have hl : s.size - p0 = len := by omega
        rw [hl]
        exact ⟨g, cap, cur, rfl, HM.out.cell, hd, HM.out.grw⟩
      · have hpos : 0 < cs.length := List.length_pos_iff.mpr hcs
        have hne : ((cs.length : Int) == 0) = false := by rw [beq_eq_false_iff_ne]; omega
        have hf := HM.out.cf
        obtain ⟨rc, rfl⟩ : ∃ rc, ra = some ⟨rc, 0, none⟩ := by
          rcases HM.out.own.2 with ⟨_, h0⟩ | ⟨g', c', _, h, _⟩
          · omega
          · simp only [Value.slice.injEq] at h
            exact ⟨g', h.1⟩
        obtain ⟨capn, curn, W4, hrun, hW4, hc1, hc2, hc3⟩ := zeros w' (f + len) (by omega) (by omega)
        have H4 := hid (And.intro hrun (And.intro hW4 (And.intro hc1 (And.intro hc2 hc3))))
        have b9 : (0 : Int) ≤ (capn : Int) := by omega
        have HP := hid (And.intro hpos hf)
        clear hrun hW4 hc1 hc2 hc3 hpos hf
        go_wp2_with (at_builtin; refine Lib.wpList_append_run _ rfl _ _ 30 3 rfl _ _ rfl rfl _ _ (by exact_mod_cast H4.out.1) ?_)
        go_loopw [10, 54] (fun fv i wr2 => ∃ j : Nat, j ≤ cs.length ∧ i = .int .i64 j ∧ FN w' cs fv j wr2) (fun _ i _ => cs.length - (intOf i).toNat)
        case atStart =>
          exact ⟨0, Nat.zero_le _, rfl, FN.start H4.out.2.1 H4.out.2.2.1 H4.out.2.2.2.2⟩
        case round =>
          obtain ⟨j, hj, rfl, hfn⟩ := hrel
          have HF := hid hfn
          clear hfn
          by_cases hjl : j < cs.length
          · obtain ⟨cg, cl, cc, cd, k1, k2, k3, k4, k5, k6⟩ := HM.out.chunk HF.out.grw hjl
            have HK := hid (And.intro k1 (And.intro k3 (And.intro k4 (And.intro k5 k6))))
            clear k1 k3 k4 k5 k6
            have c1 : (j : Int) < (cs.length : Int) := by omega
            have c2 : (j : Int) ≤ 65536 := by have := HP.out.2; omega
            go_wp2_with (at_builtin; refine wpList_append_own _ rfl (.tmp 58) (.tmp 59) 30 rfl w'.heap.size 5 i5 (.int .u8 0) 1 1 Tryd.underlying30 HI.out.1 HI.out.2.1 HI.out.2.2.1 HI.out.2.2.2 rfl (by decide) _ _ _ rfl HF.out.own ⟨cg, 0, none⟩ cl cc (cd.take cl) rfl (by rw [List.length_take]; have := HK.out.2.1; omega) HK.out.2.2.1 HK.out.2.2.2.1 (by have := HK.out.2.2.2.2; unfold maxLen; omega) (by have := HK.out.2.2.2.2; omega) HF.out.grw.size ?_)
            intro fv' w5 ho hg _
            have HN := hid (HF.out.next HK.out.1 HK.out.2.1 ho hg)
            clear ho hg
            go_wp2
            exact ⟨⟨j + 1, by omega, by go_num, HN.out⟩, by simp [intOf]; omega⟩
          · have hje : j = cs.length := by omega
            subst hje
            have ho := HF.out.own
            rw [acc_all, HM.out.flat, seg_length s p0 f (by have := HE.out; omega)] at ho
            have HO := hid ho
            clear ho hjl
            go_wp2_with (at_builtin; refine wpList_append_own _ rfl (.tmp 62) (.tmp 63) 30 rfl w'.heap.size 5 i5 (.int .u8 0) 1 1 Tryd.underlying30 HI.out.1 HI.out.2.1 HI.out.2.2.1 HI.out.2.2.2 rfl (by decide) _ _ _ rfl HO.out ⟨g, 0, none⟩ len cap (seg s (p0 + f) len) rfl (by rw [seg_length s (p0 + f) len (by have := HE.out; omega)]; omega) (by exact HM.out.cells HF.out.grw) (seg_one _ _ _) (by unfold maxLen; omega) (by omega) HF.out.grw.size ?_)
            intro fv' w5 ho hg _
            have HN := hid (And.intro ho hg)
            clear ho hg
            go_wp2
            go_ret2
            obtain ⟨h1, h2⟩ := HN.out
            rcases h1.2 with ⟨_, h0⟩ | ⟨g5, cap5, cur5, hv, _, hg5, _, _, _, ht⟩
            · have := HP.out; omega
            · have hl : s.size - p0 = f + len := by have := HE.out; omega
              rw [hl]
              refine ⟨g5, cap5, cur5.toList, by rw [hv]; rfl, by simpa using hg5, ?_, HM.out.grw.trans ((HF.out.grw.grown h2 (fun x hx => (HF.out.own.lt x hx).1)).weak)⟩
              rw [← seg_append, ← ht, Nat.mul_one]
end Go.Proofs.Qxb6616163aDoor.rd
