import Derived.Test.Qxb6616163aDoorBd
namespace Go.Proofs.Qxb6616163aDoor.rd
open Go.ChangeShapes Go.WideShapes Go.ChangeAt Go.RowKit

theorem seg_take (s : ByteArray) (i n k : Nat) (h : k ≤ n) : (seg s i n).take k = seg s i k := by
  simp only [seg, Lib.byteCells, ← List.map_take, List.take_take, Nat.min_eq_left h]
theorem seg_drop (s : ByteArray) (i n k : Nat) : (seg s i n).drop k = seg s (i + k) (n - k) := by
  simp only [seg, Lib.byteCells, ← List.map_drop, List.drop_take, List.drop_drop]
theorem splice0 (buf src : List Value) : splice buf 0 src = src ++ buf.drop src.length := by
  simp [splice]

/-- A READER OVER s OF WHICH p BYTES ARE GIVEN: the bufio.Reader in block bR, the strings.Reader in block bS, the buffer in block bB. -/
def St (bR bS bB : Nat) (s : ByteArray) (p : Nat) (w : World) : Prop :=
  (bS ≠ bR ∧ bB ≠ bR ∧ bB ≠ bS ∧ s.size ≤ 65536) ∧ ∃ (r v i : Nat) (lb lr pr : Int) (buf : List Value),
    w.heap[bR]? = some (rdr bS bB r v .nilIface lb lr) ∧ w.heap[bS]? = some (.cells #[.string s, .int .i64 i, .int .i64 pr] 39 (0, 0)) ∧ w.heap[bB]? = some (.cells buf.toArray 5 (0, 0)) ∧
    buf.length = 4096 ∧ AreBytes buf ∧ r ≤ v ∧ v ≤ 4096 ∧ i ≤ s.size ∧ p + (v - r) = i ∧ (buf.drop r).take (v - r) = seg s p (v - r)
theorem St.le {bR bS bB : Nat} {s : ByteArray} {p : Nat} {w : World} (h : St bR bS bB s p w) : p ≤ s.size := by
  obtain ⟨_, r, v, i, _, _, _, _, _, _, _, _, _, _, _, h1, h2, _⟩ := h
  omega
theorem St.later {bR bS bB : Nat} {s : ByteArray} {p : Nat} {w w' : World} (h : St bR bS bB s p w) (hR : w'.heap[bR]? = w.heap[bR]?) (hS : w'.heap[bS]? = w.heap[bS]?) (hB : w'.heap[bB]? = w.heap[bB]?) : St bR bS bB s p w' := by
  obtain ⟨h0, r, v, i, lb, lr, pr, buf, h1, h2, h3, h4⟩ := h
  exact ⟨h0, r, v, i, lb, lr, pr, buf, hR.trans h1, hS.trans h2, hB.trans h3, h4⟩

/-- (*bufio.Reader).Read where bytes are left: at least one comes, into the destination; the reader has given as many more. -/
theorem read_some (bR bS bB d off m c p : Nat) (td : TypeId) (s : ByteArray) (cur : List Value) (w : World) (hst : St bR bS bB s p w) (hp : p < s.size) (hd : w.heap[d]? = some (.cells cur.toArray td (0, 0)))
    (hdn : d ∉ [bR, bS, bB]) (hm : 1 ≤ m) (hmx : m ≤ maxLen) (hfit : off + m ≤ cur.length) :
    Calls Tryd.prog 31 #[.pointer (some ⟨bR, 0, none⟩), .slice (some ⟨d, off, none⟩) m c] w fun e w' => ∃ k, e = .returned (.tuple #[.int .i64 (k : Nat), .nilIface]) ∧ 1 ≤ k ∧ k ≤ m ∧ p + k ≤ s.size ∧
      St bR bS bB s (p + k) w' ∧ w'.heap[d]? = some (.cells (splice cur off (seg s p k)).toArray td (0, 0)) ∧ Tch [bR, bS, bB, d] w w' := by
  obtain ⟨⟨n1, n2, n3, hs⟩, r, v, i, lb, lr, pr, buf, hR, hS, hB, hl, hby, hrv, hv, hi, hpi, hseg⟩ := hst
  simp only [List.mem_cons, List.not_mem_nil, or_false, not_or] at hdn
  obtain ⟨dR, dS, dB⟩ := hdn
  by_cases hlt : r < v
  · have hkm : Nat.min (v - r) m ≤ m := Nat.min_le_right _ _
    have hkv : Nat.min (v - r) m ≤ v - r := Nat.min_le_left _ _
    have hk1 : 1 ≤ Nat.min (v - r) m := Nat.le_min.2 ⟨by omega, hm⟩
    refine (bread_buf bR bS bB d off m c r v _ td lb lr buf cur _ w hR hB hd dR dB n2 hl hby hm hfit hlt hv rfl rfl).mono fun e w' ⟨he, ⟨lb', hR'⟩, hd', hT⟩ => ?_
    generalize Nat.min (v - r) m = k at *
    have hs1 : (buf.drop r).take k = seg s p k := by rw [← seg_take s p (v - r) k hkv, ← hseg, List.take_take, Nat.min_eq_left hkv]
    refine ⟨k, he, hk1, hkm, by omega, ⟨⟨n1, n2, n3, hs⟩, r + k, v, i, lb', -1, pr, buf, hR', (hT.block bS (by simp; exact ⟨n1, fun e => dS e.symm⟩)).trans hS, (hT.block bB (by simp; exact ⟨n2, fun e => dB e.symm⟩)).trans hB, hl, hby, by omega, hv, hi, by omega, ?_⟩, by rw [← hs1]; exact hd', hT.mono (by simp)⟩
    have e1 := seg_drop s p (v - r) k
    rw [← hseg, List.drop_take, List.drop_drop] at e1
    rw [show v - (r + k) = v - r - k by omega]
    exact e1
  · obtain rfl : r = v := by omega
    obtain rfl : p = i := by omega
    by_cases hm4 : m < 4096
    · have a1 : Nat.min (s.size - p) 4096 ≤ 4096 := Nat.min_le_right _ _
      have a2 : Nat.min (s.size - p) 4096 ≤ s.size - p := Nat.min_le_left _ _
      have a3 : 1 ≤ Nat.min (s.size - p) 4096 := Nat.le_min.2 ⟨by omega, by decide⟩
      have a4 : Nat.min (Nat.min (s.size - p) 4096) m ≤ m := Nat.min_le_right _ _
      have a5 : Nat.min (Nat.min (s.size - p) 4096) m ≤ Nat.min (s.size - p) 4096 := Nat.min_le_left _ _
      have a6 : 1 ≤ Nat.min (Nat.min (s.size - p) 4096) m := Nat.le_min.2 ⟨a3, hm⟩
      refine (bread_fill bR bS bB d off m c r p _ _ td lb lr pr s buf cur w hR hS hB hd dR dB dS n2 n3 n1 hl hby hm hm4 hfit hp hs rfl rfl).mono fun e w' ⟨he, ⟨lb', hR'⟩, hS', hB', hd', hT⟩ => ?_
      generalize Nat.min (Nat.min (s.size - p) 4096) m = k at *
      generalize Nat.min (s.size - p) 4096 = n at *
      have hsl := seg_length s p n (by omega)
      have htk : ∀ j, j ≤ n → (splice buf 0 (seg s p n)).take j = seg s p j := by
        intro j hj
        rw [splice0, List.take_append_of_le_length (by omega), seg_take s p n j hj]
      refine ⟨k, he, a6, a4, by omega, ⟨⟨n1, n2, n3, hs⟩, k, n, p + n, lb', -1, -1, splice buf 0 (seg s p n), hR', hS', hB', ?_, areBytes_splice hby (areBytes_seg s p n) 0, a5, a1, by omega, by omega, ?_⟩, by rw [← htk k a5]; exact hd', hT⟩
      · rw [length_splice _ _ _ (by omega), hl]
      · have e1 := seg_drop s p n k
        rw [← htk n (Nat.le_refl _), List.drop_take] at e1
        exact e1
    · have a4 : Nat.min (s.size - p) m ≤ m := Nat.min_le_right _ _
      have a5 : Nat.min (s.size - p) m ≤ s.size - p := Nat.min_le_left _ _
      have a6 : 1 ≤ Nat.min (s.size - p) m := Nat.le_min.2 ⟨by omega, hm⟩
      refine (bread_direct bR bS bB d off m c r p _ td lb lr pr s cur w hR hS hd dR dS n1 (by omega) hmx hfit hp hs rfl).mono fun e w' ⟨he, ⟨lb', hR'⟩, hS', hd', hT⟩ => ?_
      generalize Nat.min (s.size - p) m = k at *
      refine ⟨k, he, a6, a4, by omega, ⟨⟨n1, n2, n3, hs⟩, r, r, p + k, lb', -1, -1, buf, hR', hS', (hT.block bB (by simp; exact ⟨n2, n3, fun e => dB e.symm⟩)).trans hB, hl, hby, Nat.le_refl _, hv, by omega, by omega, ?_⟩, hd', hT.mono (by simp)⟩
      simp [seg, Lib.byteCells]

/-- (*bufio.Reader).Read where no byte is left: 0, io.EOF. -/
theorem read_end (bR bS bB m c p : Nat) (da : Option Addr) (ae : Addr) (s : ByteArray) (w : World) (hst : St bR bS bB s p w) (hp : p = s.size) (he : w.cell? ⟨0, 0, none⟩ = some (.iface 50 (.pointer (some ae)))) (hm : 1 ≤ m) :
    Calls Tryd.prog 31 #[.pointer (some ⟨bR, 0, none⟩), .slice da m c] w fun e w' => e = .returned (.tuple #[.int .i64 0, .iface 50 (.pointer (some ae))]) ∧ St bR bS bB s p w' ∧ Tch [bR] w w' := by
  obtain ⟨⟨n1, n2, n3, hs⟩, r, v, i, lb, lr, pr, buf, hR, hS, hB, hl, hby, hrv, hv, hi, hpi, hseg⟩ := hst
  obtain rfl : r = v := by omega
  obtain rfl : p = i := by omega
  refine (bread_end bR bS bB m c r p lb lr pr s da ae w hR hS he n1 hm (by omega)).mono fun e w' ⟨he, ⟨r', lb', lr', hr', hR'⟩, hT⟩ => ⟨he, ?_, hT⟩
  refine ⟨⟨n1, n2, n3, hs⟩, r', r', p, lb', lr', pr, buf, hR', (hT.block bS (by simpa using n1)).trans hS, (hT.block bB (by simpa using n2)).trans hB, hl, hby, Nat.le_refl _, by omega, hi, by omega, ?_⟩
  simp [seg, Lib.byteCells]
end Go.Proofs.Qxb6616163aDoor.rd
