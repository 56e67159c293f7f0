import Derived.Test.Qxb6616163aDoorZr
import Derived.Deep.CutRange
namespace Go.Proofs.Qxb6616163aDoor.rd
open Go.ChangeShapes Go.WideShapes Go.ChangeAt Go.RowKit

theorem pair_bytes {s : ByteArray} {p : Nat} (h : p + 1 < s.size) : ∃ a b : UInt8, (∀ w : World, (Instr.index 9 (.string s) (.int .i64 (p : Int))).run Tryd.prog w = .ok (.int .u8 (a.toNat : Int)) w) ∧ (∀ w : World, (Instr.index 9 (.string s) (.int .i64 ((p : Int) + 1))).run Tryd.prog w = .ok (.int .u8 (b.toNat : Int)) w) ∧
    pair s p = decide ([a, b] = [13, 10]) := by
  have hs := Lib.size_eq s
  have h1 : p < s.data.toList.length := by omega
  have h2 : p + 1 < s.data.toList.length := by omega
  refine ⟨s.data.toList[p], s.data.toList[p + 1], fun w => ?_, fun w => ?_, ?_⟩
  · rw [run_index_string w 9 s .i64 p Tryd.underlying9, dif_pos ⟨by omega, by omega⟩]
    rfl
  · rw [run_index_string w 9 s .i64 _ Tryd.underlying9, dif_pos ⟨by omega, by omega⟩]
    rfl
  · unfold pair
    rw [List.drop_eq_getElem_cons h1, List.drop_eq_getElem_cons h2]
    rfl
theorem pair_short {s : ByteArray} {p : Nat} (h : ¬ p + 1 < s.size) : pair s p = false := by
  cases h1 : pair s p with
  | false => rfl
  | true => have := pair_le h1; omega
theorem tail_eq (s : ByteArray) (p : Nat) : ((tail s p).toList == (s.extract p s.size).toList) = true := by
  have hs := Lib.size_eq s
  rw [beq_iff_eq, ByteArray.toList_eq, ByteArray.toList_eq]
  show (s.data.toList.drop p) = (s.extract p s.size).data.toList
  rw [ByteArray.data_extract, Array.toList_extract, List.extract_eq_take_drop, List.take_of_length_le (by rw [List.length_drop]; omega)]
theorem tail_none (s : ByteArray) : (tail s s.size).toList.isEmpty = true := by
  have hs := Lib.size_eq s
  rw [ByteArray.toList_eq]
  show (s.data.toList.drop s.size).isEmpty = true
  rw [List.isEmpty_iff, List.drop_eq_nil_iff]
  omega
theorem two_is (a b : UInt8) : decide ([a, b] = [13, 10]) = (((a.toNat : Int) == 13) && ((b.toNat : Int) == 10)) := by
  have h1 : (a = 13) ↔ (a.toNat : Int) = 13 := by rw [← UInt8.toNat_inj]; show a.toNat = 13 ↔ _; omega
  have h2 : (b = 10) ↔ (b.toNat : Int) = 10 := by rw [← UInt8.toNat_inj]; show b.toNat = 10 ↔ _; omega
  rw [Bool.eq_iff_iff]
  simp [h1, h2]

/-- At a round's head: the reader's three blocks lie past the variables, which are as they were. -/
theorem at_round {s : ByteArray} {ae au : Addr} {w w1 wr : World} {p : Nat} (h : 4 ≤ w.heap.size ∧ w.cell? ⟨0, 0, none⟩ = some (errV ae) ∧ w.cell? ⟨2, 0, none⟩ = some (errV au)) (hn : Below w.heap.size w w1 ∧ w.heap.size + 3 ≤ w1.heap.size)
    (_hst : St (w.heap.size + 1) w.heap.size (w.heap.size + 1 + 1) s p wr) (hg : Grw [w.heap.size + 1, w.heap.size, w.heap.size + 1 + 1] w1 wr) :
    (∀ x ∈ [w.heap.size + 1, w.heap.size, w.heap.size + 1 + 1], 4 ≤ x ∧ x < wr.heap.size) ∧ wr.cell? ⟨0, 0, none⟩ = some (errV ae) ∧ wr.cell? ⟨2, 0, none⟩ = some (errV au) := by
  have h4 := h.1
  have h3 := hn.2
  have hsz := hg.size
  have hb : ∀ x ∈ [w.heap.size + 1, w.heap.size, w.heap.size + 1 + 1], 4 ≤ x ∧ x < wr.heap.size := by
    intro x hx
    simp only [List.mem_cons, List.not_mem_nil, or_false] at hx
    rcases hx with rfl | rfl | rfl <;> omega
  refine ⟨hb, ?_, ?_⟩
  · rw [hg.cell (p := ⟨0, 0, none⟩) (by show 0 < _; omega) (fun hm => by have := (hb 0 hm).1; omega), World.cell?_of_block (w := w) (hn.1.block 0 (by omega))]
    exact h.2.1
  · rw [hg.cell (p := ⟨2, 0, none⟩) (by show 2 < _; omega) (fun hm => by have := (hb 2 hm).1; omega), World.cell?_of_block (w := w) (hn.1.block 2 (by omega))]
    exact h.2.2

set_option maxRecDepth 100000 in
set_option maxHeartbeats 2000000 in
theorem law (s : ByteArray) (ae au : Addr) (w : World) (hs : s.size ≤ 65536) (h4 : 4 ≤ w.heap.size) (he : w.cell? ⟨0, 0, none⟩ = some (errV ae)) (hu : w.cell? ⟨2, 0, none⟩ = some (errV au)) :
    Calls Tryd.prog 3 #[.string s] w fun e w' => e = .returned (.bool true) ∧ Below w.heap.size w w' := by
  have HH := hid (And.intro h4 (And.intro he hu))
  have b0 : (s.size : Int) ≤ 65536 := by omega
  clear h4 he hu hs
  go_enter Tryd.func3, Tryd.ntmps3
  go_wp2_with (go_at_call 4; refine (bytes_yes s _ (by omega)).mono ?_; rintro e w' ⟨rfl, rfl⟩)
  go_loopw [3] (fun v wr => ∃ k : Nat, v = .int .i64 k ∧ wr = w ∧ (∀ j, j < k → pair s (2 * j) = true) ∧ 2 * k ≤ s.size) (fun v _ => s.size - (intOf v).toNat)
  case atStart => exact ⟨0, rfl, rfl, fun j hj => absurd hj (Nat.not_lt_zero _), Nat.zero_le _⟩
  case round =>
    obtain ⟨k, rfl, rfl, hp, hk⟩ := hrel
    have HP := hid hp
    have HK := hid hk
    have c1 : (2 : Int) * (k : Int) ≤ (s.size : Int) := by omega
    clear hp hk
    go_upto_region 6 with fail
    go_cut [34] from 14 to 36 (fun c wx => c = .bool (pair s (2 * k)) ∧ wx = wr)
    case first =>
      by_cases h1 : 2 * k + 1 < s.size
      · obtain ⟨a, b, i1, i2, hpr⟩ := pair_bytes h1
        have e2 : ((2 * k : Nat) : Int) = 2 * (k : Int) := by omega
        rw [e2] at i1 i2
        have c2 : (2 : Int) * (k : Int) + 1 < (s.size : Int) := by omega
        have HR := hid hpr
        obtain ⟨an, ha⟩ : ∃ an : Int, an = (a.toNat : Int) := ⟨_, rfl⟩
        obtain ⟨bn, hb⟩ : ∃ bn : Int, bn = (b.toNat : Int) := ⟨_, rfl⟩
        rw [← ha] at i1
        rw [← hb] at i2
        have HA := hid (And.intro ha hb)
        clear ha hb hpr h1 e2
        by_cases h13 : an = 13
        · have f1 : (an == 13) = true := by simp [h13]
          by_cases h10 : bn = 10
          · have f2 : (bn == 10) = true := by simp [h10]
            go_wp2
            go_meet
            exact ⟨by rw [HR.out, two_is, ← HA.out.1, ← HA.out.2, f1, f2]; rfl, rfl⟩
          · have f2 : (bn == 10) = false := by simp [h10]
            go_wp2
            go_meet
            exact ⟨by rw [HR.out, two_is, ← HA.out.1, ← HA.out.2, f1, f2]; rfl, rfl⟩
        · have f1 : (an == 13) = false := by simp [h13]
          go_wp2
          go_meet
          exact ⟨by rw [HR.out, two_is, ← HA.out.1, f1]; rfl, rfl⟩
      · have c2 : ¬ (2 : Int) * (k : Int) + 1 < (s.size : Int) := by omega
        have hp := pair_short h1
        go_wp2
        go_meet
        exact ⟨by rw [hp], rfl⟩
    case rest =>
      obtain ⟨rfl, rfl⟩ := hcut
      rcases Bool.eq_false_or_eq_true (pair s (2 * k)) with hp | hp
      · rw [hp]
        go_wp2
        have h2 := pair_le hp
        exact ⟨⟨k + 1, by go_num, trivial, fun j hj => by rcases Nat.lt_succ_iff_lt_or_eq.1 hj with h | rfl; exact HP.out j h; exact hp, by omega⟩, by simp [intOf]; omega⟩
      · rw [hp]
        have c3 : (0 : Int) ≤ (k : Int) := by omega
        by_cases hend : (s.size : Int) < 2 * (k : Int) + 2
        · have hE : s.size ≤ s.size := by omega
          have HE2 : Hid (Nat.min (2 * k + 2) s.size = s.size) := by exact Nat.min_eq_right (by omega)
          skip
          go_wp2_with fail
          refine (newr s wc (by omega)).mono ?_
          rintro e w1 ⟨rfl, n1, n2, n3⟩
          have HN := hid (And.intro n1 (And.intro n2 n3))
          clear n1 n2 n3
          go_wp2_with fail
          go_loopw [6, 7] (fun v fl wr => ∃ j : Nat, v = .int .i64 j ∧ fl = .bool false ∧ j ≤ k ∧ St (wc.heap.size + 1) wc.heap.size (wc.heap.size + 1 + 1) s (2 * j) wr ∧ Grw [wc.heap.size + 1, wc.heap.size, wc.heap.size + 1 + 1] w1 wr) (fun v _ _ => k + 1 - (intOf v).toNat)
          case atStart => exact ⟨0, rfl, rfl, Nat.zero_le _, HN.out.1, Grw.refl _ _⟩
          case round =>
            obtain ⟨j, rfl, rfl, hj, hst, hg⟩ := hrel
            have HC := hid (at_round HH.out HN.out.2 hst hg)
            have HS := hid (And.intro hst hg)
            have d1 : (j : Int) ≤ (s.size : Int) / 2 := by have := HK.out; omega
            clear hst hg
            by_cases hjk : j < k
            · have hp := HP.out j hjk
              go_wp2_with fail
              refine (zcrlf _ _ _ _ s ae au wr HS.out.1 HC.out.1 HC.out.2.1 HC.out.2.2).mono ?_
              rw [hp]
              rintro e w2 ⟨rfl, r1, r2⟩
              have HR := hid (And.intro r1 r2)
              clear r1 r2
              go_wp2
              have h2 := pair_le hp
              refine ⟨⟨j + 1, by go_num, rfl, by omega, ?_, HS.out.2.trans HR.out.2⟩, by simp [intOf]; omega⟩
              have h3 := HR.out.1
              rw [show Nat.min (2 * j + 2) s.size = 2 * (j + 1) by rw [show Nat.min (2 * j + 2) s.size = 2 * j + 2 from Nat.min_eq_left h2]; omega] at h3
              exact h3
            · have hjk' : k = j := by omega
              subst hjk'
              go_wp2_with fail
              refine (zcrlf _ _ _ _ s ae au wr HS.out.1 HC.out.1 HC.out.2.1 HC.out.2.2).mono ?_
              rw [hp]
              rintro e w2 ⟨rfl, r1, r2⟩
              rw [HE2.out] at r1
              have HR := hid (And.intro r1 (HS.out.2.trans r2))
              clear r1 r2
              have HD := hid (at_round HH.out HN.out.2 HR.out.1 HR.out.2)
              have HW : Hid (∀ W : World, Tch [] w2 W → Calls Tryd.prog 7 #[.pointer (some ⟨wc.heap.size + 1, 0, none⟩)] W fun e w' => e = .returned (.string (tail s (s.size))) ∧ Grw [wc.heap.size + 1, wc.heap.size, wc.heap.size + 1 + 1] W w') := by
                intro W hW
                exact rest _ _ _ _ s ae W (HR.out.1.later (hW.block _ (by simp)) (hW.block _ (by simp)) (hW.block _ (by simp))) (fun x hx => by rw [hW.size]; exact HD.out.1 x hx) ((hW.cell (by simp)).trans HD.out.2.1)
              have hte := tail_none s
              have d2 : (0 : Int) ≤ ((s.size : Nat) : Int) := by omega
              clear HC HS
              go_upto_region 20 with fail
              go_region_held3 (fun _ => True) (first | trivial) ((go_at_call 7; refine (HW.out _ ((Tch.refl _ _).drew)).mono ?_; rintro e w3 ⟨rfl, hg3⟩))
              have HG := hid hg3
              clear hg3
              go_wp2
              go_ret
              exact ⟨rfl, HN.out.2.1.trans (((HR.out.2.drew).trans HG.out).below (by have := HN.out.2.2; omega) (fun x hx => by simp only [List.mem_cons, List.not_mem_nil, or_false] at hx; rcases hx with rfl | rfl | rfl <;> omega))⟩
        · have hE : 2 * k + 2 ≤ s.size := by omega
          have HE2 : Hid (Nat.min (2 * k + 2) s.size = 2 * k + 2) := by exact Nat.min_eq_left (by omega)
          skip
          go_wp2_with fail
          refine (newr s wc (by omega)).mono ?_
          rintro e w1 ⟨rfl, n1, n2, n3⟩
          have HN := hid (And.intro n1 (And.intro n2 n3))
          clear n1 n2 n3
          go_wp2_with fail
          go_loopw [6, 7] (fun v fl wr => ∃ j : Nat, v = .int .i64 j ∧ fl = .bool false ∧ j ≤ k ∧ St (wc.heap.size + 1) wc.heap.size (wc.heap.size + 1 + 1) s (2 * j) wr ∧ Grw [wc.heap.size + 1, wc.heap.size, wc.heap.size + 1 + 1] w1 wr) (fun v _ _ => k + 1 - (intOf v).toNat)
          case atStart => exact ⟨0, rfl, rfl, Nat.zero_le _, HN.out.1, Grw.refl _ _⟩
          case round =>
            obtain ⟨j, rfl, rfl, hj, hst, hg⟩ := hrel
            have HC := hid (at_round HH.out HN.out.2 hst hg)
            have HS := hid (And.intro hst hg)
            have d1 : (j : Int) ≤ (s.size : Int) / 2 := by have := HK.out; omega
            clear hst hg
            by_cases hjk : j < k
            · have hp := HP.out j hjk
              go_wp2_with fail
              refine (zcrlf _ _ _ _ s ae au wr HS.out.1 HC.out.1 HC.out.2.1 HC.out.2.2).mono ?_
              rw [hp]
              rintro e w2 ⟨rfl, r1, r2⟩
              have HR := hid (And.intro r1 r2)
              clear r1 r2
              go_wp2
              have h2 := pair_le hp
              refine ⟨⟨j + 1, by go_num, rfl, by omega, ?_, HS.out.2.trans HR.out.2⟩, by simp [intOf]; omega⟩
              have h3 := HR.out.1
              rw [show Nat.min (2 * j + 2) s.size = 2 * (j + 1) by rw [show Nat.min (2 * j + 2) s.size = 2 * j + 2 from Nat.min_eq_left h2]; omega] at h3
              exact h3
            · have hjk' : k = j := by omega
              subst hjk'
              go_wp2_with fail
              refine (zcrlf _ _ _ _ s ae au wr HS.out.1 HC.out.1 HC.out.2.1 HC.out.2.2).mono ?_
              rw [hp]
              rintro e w2 ⟨rfl, r1, r2⟩
              rw [HE2.out] at r1
              have HR := hid (And.intro r1 (HS.out.2.trans r2))
              clear r1 r2
              have HD := hid (at_round HH.out HN.out.2 HR.out.1 HR.out.2)
              have HW : Hid (∀ W : World, Tch [] w2 W → Calls Tryd.prog 7 #[.pointer (some ⟨wc.heap.size + 1, 0, none⟩)] W fun e w' => e = .returned (.string (tail s (2 * k + 2))) ∧ Grw [wc.heap.size + 1, wc.heap.size, wc.heap.size + 1 + 1] W w') := by
                intro W hW
                exact rest _ _ _ _ s ae W (HR.out.1.later (hW.block _ (by simp)) (hW.block _ (by simp)) (hW.block _ (by simp))) (fun x hx => by rw [hW.size]; exact HD.out.1 x hx) ((hW.cell (by simp)).trans HD.out.2.1)
              have hte : ((tail s (2 * k + 2)).toList == (s.extract (2 * (k : Int) + 2).toNat s.size).toList) = true := by
                rw [show (2 * (k : Int) + 2).toNat = 2 * k + 2 by omega]
                exact tail_eq s (2 * k + 2)
              have d2 : (0 : Int) ≤ 2 * (k : Int) + 2 := by omega
              clear HC HS
              go_upto_region 20 with fail
              go_region_held3 (fun _ => True) (first | trivial) ((go_at_call 7; refine (HW.out _ ((Tch.refl _ _).drew)).mono ?_; rintro e w3 ⟨rfl, hg3⟩))
              have HG := hid hg3
              clear hg3
              go_wp2
              go_ret
              exact ⟨rfl, HN.out.2.1.trans (((HR.out.2.drew).trans HG.out).below (by have := HN.out.2.2; omega) (fun x hx => by simp only [List.mem_cons, List.not_mem_nil, or_false] at hx; rcases hx with rfl | rfl | rfl <;> omega))⟩

set_option maxRecDepth 100000 in
theorem law_long (s : ByteArray) (w : World) (hs : ¬ s.size ≤ 65536) : Calls Tryd.prog 3 #[.string s] w fun e w' => e = .returned (.bool true) ∧ Below w.heap.size w w' := by
  have b0 : ¬ (s.size : Int) ≤ 65536 := by omega
  clear hs
  by_cases hb : (s.size : Int) ≤ 1048576
  · have b1 : (65536 : Int) < (s.size : Int) := by omega
    go_enter Tryd.func3, Tryd.ntmps3
    go_wp2_with (go_at_call 4; refine (bytes_yes s _ hb).mono ?_; rintro e w' ⟨rfl, rfl⟩)
    go_ret
    exact ⟨rfl, Below.refl _ _⟩
  · go_enter Tryd.func3, Tryd.ntmps3
    go_wp2_with (go_at_call 4; refine (bytes_no s _ hb).mono ?_; rintro e w' ⟨rfl, rfl⟩)
    go_ret
    exact ⟨rfl, Below.refl _ _⟩
end Go.Proofs.Qxb6616163aDoor.rd
