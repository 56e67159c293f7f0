import Derived.Test.Qxb6616213aEnc
namespace Go.Proofs.Qxb6616213a.enc
open Go.ChangeShapes Go.WideShapes Go.ChangeAt Go.RowKit

/-- How much is left of the length behind j octets. -/
def left (m : Int) (j : Nat) : Prop := 0 ≤ m ∧ ((j = 0 ∧ 0 < m ∧ m ≤ 1048576) ∨ (j = 1 ∧ m ≤ 4096) ∨ (j = 2 ∧ m ≤ 16) ∨ (j = 3 ∧ m ≤ 0))

theorem left_step {m : Int} {j : Nat} (h : left m j) (hp : 0 < m) : left (m / 256) (j + 1) := by
  obtain ⟨h0, h | h | h | h⟩ := h <;> refine ⟨by omega, ?_⟩
  · exact .inr (.inl ⟨by omega, by omega⟩)
  · exact .inr (.inr (.inl ⟨by omega, by omega⟩))
  · exact .inr (.inr (.inr ⟨by omega, by omega⟩))
  · omega
theorem left_le {m : Int} {j : Nat} (h : left m j) : j ≤ 3 := by
  obtain ⟨h0, h | h | h | h⟩ := h <;> omega
theorem left_end {m : Int} {j : Nat} (h : left m j) (hp : ¬ 0 < m) : 1 ≤ j := by
  obtain ⟨h0, h | h | h | h⟩ := h <;> omega

theorem hid {p : Prop} (h : p) : Hid p := h
/-- A row that was owned stays owned behind one new block and an append to another row. -/
theorem keptA {wr w' : World} {o : Obj} {B g n cap r : Nat} {xs : List Value} (h : wr.ownsRow B 5 1 (.slice (some ⟨g, 0, none⟩) n cap) n xs) (hg : (wr.alloc o).grownBy w' (some r)) (hne : g ≠ r) :
    w'.ownsRow B 5 1 (.slice (some ⟨g, 0, none⟩) n cap) n xs :=
  (h.alloc o).kept hg (.inr (by simp [Value.ownBlock]; exact hne))
theorem belowA {w wr w' : World} {o : Obj} {r : Nat} (hb : Below w.heap.size w wr) (hg : (wr.alloc o).grownBy w' (some r)) (hr : w.heap.size ≤ r) : Below w.heap.size w w' :=
  (hb.alloc hb.size o).grown hg (by rw [World.size_alloc]; have := hb.size; omega) (fun k hk => by simp at hk; omega)
theorem sizeA {wr w' : World} {o : Obj} {r : Option Nat} (hg : (wr.alloc o).grownBy w' r) : wr.heap.size + 1 ≤ w'.heap.size := by
  have := hg.size
  rw [World.size_alloc] at this
  omega
theorem ownsRow_base {w : World} {B B' : Nat} {e : TypeId} {s n : Nat} {v : Value} {xs : List Value} (h : w.ownsRow B e s v n xs) (hB : B' ≤ B) : w.ownsRow B' e s v n xs := by
  refine ⟨h.1, ?_⟩
  rcases h.2 with h0 | ⟨g, cap, cur, h1, h2, h3⟩
  · exact .inl h0
  · exact .inr ⟨g, cap, cur, h1, Nat.le_trans hB h2, h3⟩

set_option maxRecDepth 100000 in
set_option maxHeartbeats 1000000 in
/-- encodeElement where the content is 128 bytes or longer: more than two bytes. -/
theorem enc_long (tag : Int) (b n : Nat) (g0 : Nat) (c : Nat) (zs : List Int) (w : World) (t0 : 0 ≤ tag) (t1 : tag ≤ 30) (hb : w.cell? ⟨b, 0, none⟩ = some (.slice (some ⟨g0, 0, none⟩) n c)) (hz : zs.length = n) (hn : 128 ≤ n) (hm : n ≤ 1048576)
    (ha : ∀ j u, (zs.map (Value.int .u8))[j]? = some u → w.cell? ((⟨g0, 0, none⟩ : Addr).add j) = some u) :
    Calls Try.prog 19 #[.int .i64 tag, .slice (some ⟨b, 0, none⟩) 1 1] w fun e w' => ∃ v k ds, e = .returned v ∧ w'.ownsRow w.heap.size 5 1 v k ((ds : List Int).map (Value.int .u8)) ∧ Below w.heap.size w w' ∧ 3 ≤ k := by
  obtain ⟨i0, hi, hz0, hz1, hz2⟩ := info_parts info5
  have HI : Hid (Try.prog.info? 5 = some i0 ∧ i0.zero = some (.int .u8 0) ∧ i0.size = 1 ∧ i0.bytes = 1) := ⟨hi, hz0, hz1, hz2⟩
  have HB : Hid (w.cell? ⟨b, 0, none⟩ = some (.slice (some ⟨g0, 0, none⟩) n c)) := hb
  have HA : Hid (∀ j u, (zs.map (Value.int .u8))[j]? = some u → w.cell? ((⟨g0, 0, none⟩ : Addr).add j) = some u) := ha
  have HZ : Hid (zs.length = n) := hz
  have HN : Hid (128 ≤ n ∧ n ≤ 1048576) := ⟨hn, hm⟩
  have hn1 : ¬ (n : Int) < 128 := by omega
  have hn2 : (n : Int) ≤ 1048576 := by omega
  clear hi hz0 hz1 hz2 hz ha hb hn hm
  go_enter Try.func19, Try.ntmps19
  go_wp2_with fail
  refine (join_any b (some ⟨g0, 0, none⟩) n c zs w HB.out HZ.out HN.out.2 (.inr ⟨g0, rfl, HA.out⟩)).mono ?_
  rintro e w1 ⟨hbl, hh⟩
  have hsz := hbl.size
  have h16 : bits BinOp.or IntKind.u8 16 32 = 48 := by decide
  have h17 : bits BinOp.or IntKind.u8 17 32 = 49 := by decide
  clear HB HA
  rcases hh with ⟨rfl, h0⟩ | ⟨g, cap, rfl, hown⟩
  · exfalso; have := HN.out; omega
  have HO : Hid (w1.ownsRow w.heap.size 5 1 (.slice (some ⟨g, 0, none⟩) n cap) n (zs.map (Value.int .u8))) := hown
  clear hown
  rcases (show tag = 16 ∨ tag = 17 ∨ ((tag == 16) = false ∧ (tag == 17) = false) by simp; omega) with rfl | rfl | ⟨e16, e17⟩
  all_goals
    go_wp2_with fail
    go_loopw [8, 9] (fun q len wr => ∃ (m : Int) (j : Nat) (ds : List Int) (lv : Value) (id : Int), q = .int .i64 m ∧ lv = len ∧ left m j ∧ wr.ownsRow (w1.heap.size + 1) 5 1 lv j (ds.map (Value.int .u8)) ∧
        wr.ownsRow w.heap.size 5 1 (.slice (some ⟨g, 0, none⟩) n cap) n (zs.map (Value.int .u8)) ∧
        wr.ownsRow w1.heap.size 5 1 (.slice (some ⟨w1.heap.size, 0, none⟩) 1 1) 1 ([id].map (Value.int .u8)) ∧ Below w.heap.size w wr ∧ w1.heap.size + 1 ≤ wr.heap.size)
      (fun q _ _ => (intOf q).toNat)
    case atStart =>
      have := HN.out
      exact ⟨n, 0, [], _, _, rfl, rfl, ⟨by omega, .inl ⟨rfl, by omega, by omega⟩⟩, World.ownsRow_nil _ _ _ _, HO.out.alloc _, World.ownsRow_lit w1 _ 1 (Nat.le_refl _) (by decide) rfl, hbl.alloc hsz _, by rw [World.size_alloc]; exact Nat.le_refl _⟩
    case round =>
      obtain ⟨m, j, ds, lv, id, rfl, rfl, hl, ho1, ho2, ho3, hbr, hs1⟩ := hrel
      have hszr := hbr.size
      have Hg : Hid (g < w1.heap.size) := (HO.out.lt g rfl).2
      have HL : Hid (left m j) := hl
      have m0 : 0 ≤ m := hl.1
      have m1 : m ≤ 1048576 := by rcases hl.2 with h | h | h | h <;> omega
      have H2 : Hid (wr.ownsRow w.heap.size 5 1 (.slice (some ⟨g, 0, none⟩) n cap) n (zs.map (Value.int .u8))) := ho2
      have H3 : Hid (wr.ownsRow w1.heap.size 5 1 (.slice (some ⟨w1.heap.size, 0, none⟩) 1 1) 1 ([id].map (Value.int .u8))) := ho3
      have H1 : Hid (wr.ownsRow (w1.heap.size + 1) 5 1 lv j (ds.map (Value.int .u8))) := ho1
      clear hl ho1 ho2 ho3 HO
      by_cases hp : 0 < m
      · rcases H1.out.2 with ⟨hv, h0⟩ | ⟨g2, cap2, cur, hv, _⟩
        · subst hv
          subst h0
          go_wp2_with (at_builtin; refine wpList_append_own_none rfl _ _ 22 rfl w.heap.size 5 i0 1 Try.underlying22 HI.out.1 _ 1 _ rfl (World.ownsRow_lit wr _ 1 hszr (by decide) rfl) rfl ?_)
          exact ⟨⟨m / 256, 1, [m % 256], _, _, rfl, rfl, left_step HL.out hp, World.ownsRow_lit wr _ 1 hs1 (by decide) rfl, H2.out.alloc _, H3.out.alloc _, hbr.alloc hszr _, by rw [World.size_alloc]; omega⟩, by simp [intOf]; omega⟩
        · subst hv
          go_wp2_with (at_builtin; refine wpList_append_own _ rfl (.tmp 39) (.tmp 40) 22 rfl (w1.heap.size + 1) 5 i0 (.int .u8 0) 1 1 Try.underlying22 HI.out.1 HI.out.2.1 HI.out.2.2.1 HI.out.2.2.2 rfl (by decide) _ 1 _ rfl (World.ownsRow_lit wr _ 1 hs1 (by decide) rfl) ⟨g2, 0, none⟩ j cap2 (ds.map (Value.int .u8)) rfl ?_ ?_ ?_ ?_ ?_ ?_ ?_)
          · simpa using H1.out.1
          · exact (H1.out.alloc _).cells rfl
          · exact ints_oneCell _ _
          · have := left_le HL.out; unfold maxLen; omega
          · have := left_le HL.out; omega
          · rw [World.size_alloc]; omega
          intro v2 w2 hown2 hgrow2 _
          have R1 := keptA (r := wr.heap.size) H2.out hgrow2 (by have := Hg.out; omega)
          have R2 := keptA (r := wr.heap.size) H3.out hgrow2 (by omega)
          have R3 := belowA (r := wr.heap.size) hbr hgrow2 hszr
          have R4 := sizeA hgrow2
          have HW : Hid (w2.ownsRow (w1.heap.size + 1) 5 1 v2 (1 + j) (([m % 256] ++ ds).map (Value.int .u8))) := hid (by simpa using hown2)
          clear hown2 hgrow2
          go_wp2
          exact ⟨⟨m / 256, j + 1, [m % 256] ++ ds, _, _, rfl, rfl, left_step HL.out hp, by rw [Nat.add_comm j 1]; exact HW.out, R1, R2, R3, by omega⟩, by simp [intOf]; omega⟩
      · have hj := left_end HL.out hp
        have hj3 := left_le HL.out
        have HJ : Hid (1 ≤ j ∧ j ≤ 3) := ⟨hj, hj3⟩
        have hj1 : (1 : Int) ≤ (j : Int) := by omega
        have hj2 : (j : Int) ≤ 3 := by omega
        clear hj hj3
        rcases H1.out.2 with ⟨hv, h0⟩ | ⟨g2, cap2, cur, hv, hg2, hrest⟩
        · exfalso; have := HJ.out; omega
        · subst hv
          have HG2 : Hid (w1.heap.size + 1 ≤ g2) := hg2
          clear hg2 hrest
          go_wp2_with (at_builtin; refine wpList_append_own _ rfl (.tmp 42) (.tmp 47) 22 rfl w1.heap.size 5 i0 (.int .u8 0) 1 1 Try.underlying22 HI.out.1 HI.out.2.1 HI.out.2.2.1 HI.out.2.2.2 rfl (by decide) _ 1 _ rfl (H3.out.alloc _) ⟨wr.heap.size, 0, none⟩ 1 1 [.int .u8 (128 + (j : Int))] rfl rfl (by exact one_cell wr _ _) (by simp [Value.oneCell']) (by decide) (by decide) (by rw [World.size_alloc]; omega) ?_)
          intro v2 w2 hown2 hgrow2 _
          have R1 := hid (keptA (r := w1.heap.size) H1.out hgrow2 (by have := HG2.out; omega))
          have R2 := hid (keptA (r := w1.heap.size) H2.out hgrow2 (by have := Hg.out; omega))
          have R3 := hid (belowA (r := w1.heap.size) hbr hgrow2 hsz)
          have R4 := hid (sizeA hgrow2)
          have HW : Hid (w2.ownsRow w1.heap.size 5 1 v2 2 (([id, 128 + (j : Int)]).map (Value.int .u8))) := hid (by simpa using hown2)
          clear hown2 hgrow2
          go_wp2_with (at_builtin; refine wpList_append_own _ rfl (.tmp 49) (.tmp 50) 22 rfl w1.heap.size 5 i0 (.int .u8 0) 1 1 Try.underlying22 HI.out.1 HI.out.2.1 HI.out.2.2.1 HI.out.2.2.2 rfl (by decide) v2 2 _ rfl HW.out ⟨g2, 0, none⟩ j cap2 (ds.map (Value.int .u8)) rfl ?_ ?_ ?_ ?_ ?_ ?_ ?_)
          · simpa using H1.out.1
          · exact R1.out.cells rfl
          · exact ints_oneCell _ _
          · have := HJ.out; unfold maxLen; omega
          · have := HJ.out; omega
          · have := R4.out; omega
          intro v3 w3 hown3 hgrow3 _
          have S2 := hid (R2.out.kept hgrow3 (.inr (fun h => by have := (HW.out.lt g h.symm).1; have := Hg.out; omega)))
          have S3 := hid (R3.out.grown hgrow3 R3.out.size (fun k hk => by have := (HW.out.lt k hk).1; omega))
          have S4 : Hid (w1.heap.size ≤ w3.heap.size) := hid (by have := R4.out; have := hgrow3.size; omega)
          have HX : Hid (w3.ownsRow w1.heap.size 5 1 v3 (2 + j) (([id, 128 + (j : Int)] ++ ds).map (Value.int .u8))) := hid (by simpa using hown3)
          clear hown3 hgrow3
          go_wp2_with (at_builtin; refine wpList_append_own _ rfl (.tmp 52) (.tmp 53) 22 rfl w1.heap.size 5 i0 (.int .u8 0) 1 1 Try.underlying22 HI.out.1 HI.out.2.1 HI.out.2.2.1 HI.out.2.2.2 rfl (by decide) v3 (2 + j) _ rfl HX.out ⟨g, 0, none⟩ n cap (zs.map (Value.int .u8)) rfl ?_ ?_ ?_ ?_ ?_ ?_ ?_)
          · simp [HZ.out]
          · exact S2.out.cells rfl
          · exact ints_oneCell _ _
          · have := HJ.out; have := HN.out; unfold maxLen; omega
          · have := HJ.out; have := HN.out; omega
          · exact S4.out
          intro v4 w4 hown4 hgrow4 _
          have T3 := hid (S3.out.grown hgrow4 S3.out.size (fun k hk => by have := (HX.out.lt k hk).1; omega))
          clear hgrow4
          go_wp2
          go_ret
          exact ⟨v4, _, ([id, 128 + (j : Int)] ++ ds) ++ zs, rfl, ownsRow_base (by simpa using hown4) hsz, T3.out, by omega⟩
end Go.Proofs.Qxb6616213a.enc
