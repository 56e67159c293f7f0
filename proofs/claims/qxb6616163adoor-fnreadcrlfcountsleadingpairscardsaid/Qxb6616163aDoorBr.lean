import Derived.Test.Qxb6616163aDoorSr
namespace Go.Proofs.Qxb6616163aDoor.rd
open Go.ChangeShapes Go.WideShapes Go.ChangeAt Go.RowKit

/-- The reader's block. -/
abbrev rdr (bS bB r v : Nat) (ev : Value) (lb lr : Int) : Obj :=
  .cells #[.slice (some ⟨bB, 0, none⟩) 4096 4096, .iface 28 (.pointer (some ⟨bS, 0, none⟩)), .int .i64 r, .int .i64 v, ev, .int .i64 lb, .int .i64 lr] 47 (0, 0)

/-- (*bufio.Reader).readErr: the error, which it forgets. -/
theorem rerr (bR bS bB r v : Nat) (ev : Value) (lb lr : Int) (w : World) (h : w.heap[bR]? = some (rdr bS bB r v ev lb lr)) :
    Calls Tryd.prog 34 #[.pointer (some ⟨bR, 0, none⟩)] w fun e w' => e = .returned ev ∧ w'.heap[bR]? = some (rdr bS bB r v .nilIface lb lr) ∧ Tch [bR] w w' := by
  have c4 : w.cell? ⟨bR, 4, none⟩ = some ev := cell_of h rfl
  have z4 : w.frozen? ⟨bR, 4, none⟩ = false := free_of h
  have H := hid h
  clear h
  go_enter Tryd.func34, Tryd.ntmps34
  go_wp2
  go_ret
  exact ⟨rfl, setCell_block H.out 4 .nilIface, (Tch.refl _ _).setCell (by simp) _⟩

/-- Bytes: each cell a number of kind uint8. -/
def AreBytes (l : List Value) : Prop := ∀ (j : Nat) x, l[j]? = some x → ∃ n : Int, x = .int .u8 n

theorem areBytes_one {l : List Value} (h : AreBytes l) : ∀ v ∈ l, v.oneCell' = true := by
  intro v hv
  obtain ⟨j, hj, e⟩ := List.getElem_of_mem hv
  obtain ⟨n, rfl⟩ := h j v (by rw [List.getElem?_eq_getElem hj, e])
  rfl
theorem areBytes_sub {l : List Value} (h : AreBytes l) (r k : Nat) : AreBytes ((l.drop r).take k) := by
  intro j x hx
  rw [List.getElem?_take] at hx
  split at hx
  · rw [List.getElem?_drop] at hx; exact h _ x hx
  · cases hx
/-- 'copy(dst, src)' out of a row into another. -/
theorem run_copy_rows {P : Program} (w : World) (dT sT ty elem : TypeId) (g o dLen dCap b r sLen sCap : Nat) (cur buf : List Value) (t u : TypeId) (k : Nat)
    (hu : P.underlying dT = some (.slice elem)) (hs : (P.info? elem).map (·.size) = some 1) (hg : w.heap[g]? = some (.cells cur.toArray t (0, 0))) (hb : w.heap[b]? = some (.cells buf.toArray u (0, 0)))
    (hk : k = Nat.min sLen dLen) (hfit : o + k ≤ cur.length) (hbuf : r + k ≤ buf.length) (hby : AreBytes buf) :
    (Builtin.copy_ #[dT, sT] ty #[.slice (some ⟨g, o, none⟩) dLen dCap, .slice (some ⟨b, r, none⟩) sLen sCap]).run P w = .ok (goInt k) (w.setRow g (splice cur o ((buf.drop r).take k)).toArray) := by
  have hl : ((buf.drop r).take k).length = k := by rw [List.length_take, List.length_drop]; omega
  have h := run_copy_row (P := P) w dT sT ty elem g o dLen dCap ⟨b, r, none⟩ sLen sCap cur.toArray t ((buf.drop r).take k) hu hs hg (by rw [hl, hk]) (by
    intro j x hj
    rw [List.getElem?_take] at hj
    split at hj
    · rw [List.getElem?_drop] at hj
      have hadd : (⟨b, r, none⟩ : Addr).add j = ⟨b, r + j, none⟩ := by unfold Addr.add; split <;> simp_all
      rw [hadd]
      exact cell_of hb (by simpa using hj)
    · cases hj) (by rw [hl]; simpa using hfit) (areBytes_one (areBytes_sub hby r k))
  rw [h, hl]
  simp [splice, hl, List.append_assoc]

set_option maxHeartbeats 1000000 in
/-- The buffered case. -/
theorem bread_buf (bR bS bB d off m c r v k : Nat) (td : TypeId) (lb lr : Int) (buf cur src : List Value) (w : World)
    (hR : w.heap[bR]? = some (rdr bS bB r v .nilIface lb lr)) (hB : w.heap[bB]? = some (.cells buf.toArray 5 (0, 0))) (hd : w.heap[d]? = some (.cells cur.toArray td (0, 0)))
    (hdR : d ≠ bR) (hdB : d ≠ bB) (hBR : bB ≠ bR) (hlen : buf.length = 4096) (hby : AreBytes buf) (hm : 1 ≤ m) (hfit : off + m ≤ cur.length) (hrv : r < v) (hv : v ≤ 4096)
    (hk : k = Nat.min (v - r) m) (hsrc : src = (buf.drop r).take k) :
    Calls Tryd.prog 31 #[.pointer (some ⟨bR, 0, none⟩), .slice (some ⟨d, off, none⟩) m c] w fun e w' => e = .returned (.tuple #[.int .i64 k, .nilIface]) ∧
      (∃ lb', w'.heap[bR]? = some (rdr bS bB (r + k) v .nilIface lb' (-1))) ∧ w'.heap[d]? = some (.cells (splice cur off src).toArray td (0, 0)) ∧ Tch [bR, d] w w' := by
  have c0 : w.cell? ⟨bR, 0, none⟩ = some (.slice (some ⟨bB, 0, none⟩) 4096 4096) := cell_of hR rfl
  have c2 : w.cell? ⟨bR, 2, none⟩ = some (.int .i64 r) := cell_of hR rfl
  have c3 : w.cell? ⟨bR, 3, none⟩ = some (.int .i64 v) := cell_of hR rfl
  have z2 : w.frozen? ⟨bR, 2, none⟩ = false := free_of hR
  have hm' : ((m : Int) == 0) = false := beq_eq_false_iff_ne.2 (by omega)
  have hrv' : ((r : Int) == (v : Int)) = false := beq_eq_false_iff_ne.2 (by omega)
  have b1 : (0 : Int) ≤ (r : Int) := by omega
  have b2 : (r : Int) ≤ (v : Int) := by omega
  have b3 : (v : Int) ≤ 4096 := by omega
  have hr4 : ¬ 4096 = r := by omega
  have HR := hid hR
  have HB := hid hB
  have HD := hid hd
  have HH := hid (And.intro hlen (And.intro hby (And.intro hm (And.intro hfit (And.intro hrv (And.intro hv (And.intro hk hsrc)))))))
  clear hR hB hd hlen hby hm hfit hrv hv hk hsrc
  go_enter Tryd.func31, Tryd.ntmps31
  go_wp2
  go_quiet (fail)
  go_wp2
  have HC : Hid (∀ W : World, W.heap[d]? = some (.cells cur.toArray td (0, 0)) → W.heap[bB]? = some (.cells buf.toArray 5 (0, 0)) → (Builtin.copy_ #[30, 30] 3 #[.slice (some ⟨d, off, none⟩) m c, .slice (some ⟨bB, r, none⟩) (v - r) (4096 - r)]).run Tryd.prog W = .ok (goInt k) (W.setRow d (splice cur off src).toArray)) := by
    intro W h1 h2
    obtain ⟨q1, q2, q3, q4, q5, q6, q7, q8⟩ := HH.out
    have hkm : k ≤ m := by rw [q7]; exact Nat.min_le_right _ _
    have hkv : k ≤ v - r := by rw [q7]; exact Nat.min_le_left _ _
    rw [q8]
    exact run_copy_rows W 30 30 3 5 d off m c bB r (v - r) (4096 - r) cur buf td 5 k Tryd.underlying30 (by kernel_rfl) h1 h2 q7 (by omega) (by omega) q2
  obtain ⟨W1, e1⟩ : ∃ W, W = w.drewN nq := ⟨_, rfl⟩
  rw [← e1]
  have HR1 : Hid (W1.heap[bR]? = some (rdr bS bB r v .nilIface lb lr)) := by rw [e1]; exact HR
  have HB1 : Hid (W1.heap[bB]? = some (.cells buf.toArray 5 (0, 0))) := by rw [e1]; exact HB
  have HD1 : Hid (W1.heap[d]? = some (.cells cur.toArray td (0, 0))) := by rw [e1]; exact HD
  have HT1 : Hid (Tch [bR, d] w W1) := by rw [e1]; exact hid ((Tch.refl _ _).drewN _)
  clear c0 c2 c3 z2 HR HB HD e1
  have c0 : W1.cell? ⟨bR, 0, none⟩ = some (.slice (some ⟨bB, 0, none⟩) 4096 4096) := cell_of HR1.out rfl
  have c2 : W1.cell? ⟨bR, 2, none⟩ = some (.int .i64 r) := cell_of HR1.out rfl
  have c3 : W1.cell? ⟨bR, 3, none⟩ = some (.int .i64 v) := cell_of HR1.out rfl
  go_region_held3 (fun w' => w'.cell? ⟨bR, 0, none⟩ = some (.slice (some ⟨bB, 0, none⟩) 4096 4096) ∧ w'.cell? ⟨bR, 2, none⟩ = some (.int .i64 r) ∧ w'.cell? ⟨bR, 3, none⟩ = some (.int .i64 v)) (first | go_keep | (refine ⟨?_, ?_, ?_⟩ <;> (rw [cell_setRow_other _ _ _ _ (fun e => hdR e.symm)]; first | exact c0 | exact c2 | exact c3))) ((refine step_copy_run (by rfl) _ _ _ _ (by rfl) _ _ (by rfl) (by rfl) (HC.out _ HD1.out HB1.out) ?_))
  obtain ⟨W2, e2⟩ : ∃ W, W = W1.drew.setRow d (splice cur off src).toArray := ⟨_, rfl⟩
  rw [← e2]
  have HR2 : Hid (W2.heap[bR]? = some (rdr bS bB r v .nilIface lb lr)) := by rw [e2]; exact hid ((setRow_other _ _ _ _ (fun e => hdR e.symm)).trans HR1.out)
  have HB2 : Hid (W2.heap[bB]? = some (.cells buf.toArray 5 (0, 0))) := by rw [e2]; exact hid ((setRow_other _ _ _ _ (fun e => hdB e.symm)).trans HB1.out)
  have HD2 : Hid (W2.heap[d]? = some (.cells (splice cur off src).toArray td (0, 0))) := by rw [e2]; exact hid (setRow_heap W1.drew d _ _ td (0, 0) HD1.out)
  have HT2 : Hid (Tch [bR, d] w W2) := by rw [e2]; exact hid (HT1.out.drew.setRow (by simp) _)
  clear e2 c0 c2 c3 HR1 HB1 HD1 HT1 HC
  rename_i hx; clear hx
  have c2 : W2.cell? ⟨bR, 2, none⟩ = some (.int .i64 r) := cell_of HR2.out rfl
  have z2 : W2.frozen? ⟨bR, 2, none⟩ = false := free_of HR2.out
  have hk1 : 1 ≤ k ∧ r + k ≤ v ∧ v ≤ 4096 ∧ buf.length = 4096 := by
    obtain ⟨q1, q2, q3, q4, q5, q6, q7, q8⟩ := HH.out
    have hkv : k ≤ v - r := by rw [q7]; exact Nat.min_le_left _ _
    have : 1 ≤ k := by rw [q7]; exact Nat.le_min.2 ⟨by omega, q3⟩
    omega
  have HKK := hid hk1
  have b4 : (1 : Int) ≤ (k : Int) := by omega
  have b5 : (r : Int) + (k : Int) ≤ 4096 := by omega
  clear hk1
  go_wp2
  obtain ⟨W3, e3⟩ : ∃ W, W = W2.setCell ⟨bR, 2, none⟩ (.int .i64 ((r : Int) + (k : Int))) := ⟨_, rfl⟩
  rw [← e3]
  have HR3 : Hid (W3.heap[bR]? = some (rdr bS bB (r + k) v .nilIface lb lr)) := by rw [e3, setCell_block HR2.out 2]; exact hid (by simp)
  have HB3 : Hid (W3.heap[bB]? = some (.cells buf.toArray 5 (0, 0))) := by rw [e3]; exact hid ((Below.heap_setCell _ _ _ _ hBR).trans HB2.out)
  have HD3 : Hid (W3.heap[d]? = some (.cells (splice cur off src).toArray td (0, 0))) := by rw [e3]; exact hid ((Below.heap_setCell _ _ _ _ hdR).trans HD2.out)
  have HT3 : Hid (Tch [bR, d] w W3) := by rw [e3]; exact hid (HT2.out.setCell (by simp) _)
  clear e3 c2 z2 HR2 HB2 HD2 HT2
  obtain ⟨x, hx⟩ : ∃ n : Int, buf[r + k - 1]? = some (.int .u8 n) := by
    obtain ⟨p1, p2, p3, p4⟩ := HKK.out
    obtain ⟨n, hn⟩ := HH.out.2.1 (r + k - 1) buf[r + k - 1] (List.getElem?_eq_getElem (by omega))
    exact ⟨n, by rw [List.getElem?_eq_getElem (by omega), hn]⟩
  have c0 : W3.cell? ⟨bR, 0, none⟩ = some (.slice (some ⟨bB, 0, none⟩) 4096 4096) := cell_of HR3.out rfl
  have c2 : W3.cell? ⟨bR, 2, none⟩ = some (.int .i64 ((r : Int) + (k : Int))) := cell_of HR3.out (by simp)
  have c5 : W3.cell? ⟨bR, 5, none⟩ = some (.int .i64 lb) := cell_of HR3.out rfl
  have c6 : W3.cell? ⟨bR, 6, none⟩ = some (.int .i64 lr) := cell_of HR3.out rfl
  have z5 : W3.frozen? ⟨bR, 5, none⟩ = false := free_of HR3.out
  have z6 : W3.frozen? ⟨bR, 6, none⟩ = false := free_of HR3.out
  have hj : ((r : Int) + (k : Int) - 1).toNat = r + k - 1 := by omega
  have b6 : (0 : Int) ≤ (r : Int) + (k : Int) - 1 := by omega
  have b7 : (r : Int) + (k : Int) - 1 < 4096 := by omega
  have b8 : IntKind.i64.wrap ((r : Int) + (k : Int) - 1) = (r : Int) + (k : Int) - 1 := by rw [IntKind.wrap_i64]; omega
  have cx : W3.cell? ⟨bB, r + k - 1, none⟩ = some (.int .u8 x) := cell_of HB3.out (by simpa using hx)
  have HX := hid hx
  clear hx
  go_region
  go_wp2
  go_ret2
  refine ⟨rfl, ⟨wrap64 x, ?_⟩, ?_, ((HT3.out.setCell (by simp) _).setCell (by simp) _).drew⟩
  · have e := setCell_block (setCell_block HR3.out 5 (.int .i64 (wrap64 x))) 6 (.int .i64 (-1))
    exact e.trans (by simp)
  · exact ((Below.heap_setCell _ _ _ _ hdR).trans (Below.heap_setCell _ _ _ _ hdR)).trans HD3.out
end Go.Proofs.Qxb6616163aDoor.rd
