import Derived.Test.Qxb6616163aDoorSt
import Derived.LaidEql
namespace Go.Proofs.Qxb6616163aDoor.rd
open Go.ChangeShapes Go.WideShapes Go.ChangeAt Go.RowKit
abbrev errV (a : Addr) : Value := .iface 50 (.pointer (some a))
/-- How long io.ReadAtLeast's loop may still go. -/
def meas (n err : Value) : Nat := match err with
  | .nilIface => 3 - (intOf n).toNat
  | _ => 0
def IsL (bR bS bB d p : Nat) (td : TypeId) (s : ByteArray) (cur : List Value) (ae : Addr) (w : World) (n err : Value) (wr : World) : Prop :=
  ∃ q : Nat, q ≤ 2 ∧ n = .int .i64 q ∧ p + q ≤ s.size ∧ St bR bS bB s (p + q) wr ∧ wr.heap[d]? = some (.cells (splice cur 0 (seg s p q)).toArray td (0, 0)) ∧ Tch [bR, bS, bB, d] w wr ∧
    (err = .nilIface ∨ (err = errV ae ∧ q < 2 ∧ p + q = s.size))
theorem nil_ahead (a : Addr) (w : World) : (nilAhead 179 23 (.pointer (some a)) "Read").run Tryd.prog w = .ok (some false) w := by kernel_rfl
theorem method_read (a : Addr) (w : World) : (method 179 23 (.pointer (some a)) "Read").run Tryd.prog w = .ok (31, .pointer (some a)) w := by kernel_rfl
theorem comp50 : (Tryd.prog.info? 50).map (·.comparable) = some true := by kernel_rfl
theorem some71 : (Tryd.prog.info? 71).isSome = true := by kernel_rfl
theorem err_same (a : Addr) (w : World) : (binOp .eql 32 (errV a) (errV a)).run Tryd.prog w = .ok (.bool true) w := by
  obtain ⟨i, hi, hc⟩ := Option.map_eq_some_iff.1 comp50
  obtain ⟨j, hj⟩ := Option.isSome_iff_exists.1 some71
  exact run_eql_iface_ptr_same w a Tryd.underlying32 Tryd.underlying50 hi hc hj
theorem splice_next (cur A B : List Value) : splice (splice cur 0 A) A.length B = splice cur 0 (A ++ B) := by
  rw [splice0, splice0]
  unfold splice
  rw [List.take_append_of_le_length (Nat.le_refl _), List.take_length, List.drop_append, List.drop_of_length_le (by omega)]
  simp [List.drop_drop]
theorem seg_append (s : ByteArray) (p a b : Nat) : seg s p a ++ seg s (p + a) b = seg s p (a + b) := by
  have h := List.take_append_drop a (seg s p (a + b))
  rw [seg_take s p (a + b) a (by omega), seg_drop, Nat.add_sub_cancel_left] at h
  exact h
set_option maxHeartbeats 1000000 in
/-- io.ReadAtLeast of two bytes into a row of two. -/
theorem atLeast (bR bS bB d p : Nat) (td : TypeId) (s : ByteArray) (cur : List Value) (ae au : Addr) (w : World) (hst : St bR bS bB s p w) (hd : w.heap[d]? = some (.cells cur.toArray td (0, 0))) (hcur : cur.length = 2)
    (hdn : d ∉ [bR, bS, bB]) (hg : ∀ x ∈ [bR, bS, bB, d], 4 ≤ x) (he : w.cell? ⟨0, 0, none⟩ = some (errV ae)) (hu : w.cell? ⟨2, 0, none⟩ = some (errV au)) :
    Calls Tryd.prog 15 #[.iface 23 (.pointer (some ⟨bR, 0, none⟩)), .slice (some ⟨d, 0, none⟩) 2 2, .int .i64 2] w fun e w' => Tch [bR, bS, bB, d] w w' ∧
      ((p + 2 ≤ s.size ∧ e = .returned (.tuple #[.int .i64 2, .nilIface]) ∧ St bR bS bB s (p + 2) w' ∧ w'.heap[d]? = some (.cells (splice cur 0 (seg s p 2)).toArray td (0, 0))) ∨
       (¬ p + 2 ≤ s.size ∧ (∃ (q : Nat) (a : Addr), e = .returned (.tuple #[.int .i64 q, errV a])) ∧ St bR bS bB s s.size w')) := by
  have HST := hid hst
  have HD := hid hd
  have HH := hid (And.intro hcur (And.intro hdn (And.intro hg (And.intro he hu))))
  clear hst hd hcur hdn hg he hu
  go_enter Tryd.func15, Tryd.ntmps15
  go_wp2
  go_loopw [6, 7] (fun n err wr => IsL bR bS bB d p td s cur ae w n err wr) (fun n err _ => meas n err)
  case atStart =>
    refine ⟨0, by omega, rfl, HST.out.le, HST.out, ?_, Tch.refl _ _, .inl rfl⟩
    have e : splice cur 0 (seg s p 0) = cur := by simp [splice, seg, Lib.byteCells]
    rw [e]; exact HD.out
  case round =>
    obtain ⟨q, hq, rfl, hle, hstq, hdq, hT, herr⟩ := hrel
    have HQ := hid (And.intro hle (And.intro hstq (And.intro hdq hT)))
    have hn0 : (0 : Nat) ∉ [bR, bS, bB, d] := fun h => by have := HH.out.2.2.1 0 h; omega
    have hn2 : (2 : Nat) ∉ [bR, bS, bB, d] := fun h => by have := HH.out.2.2.1 2 h; omega
    have ce : wr.cell? ⟨0, 0, none⟩ = some (errV ae) := (hT.cell hn0).trans HH.out.2.2.2.1
    have cu : wr.cell? ⟨2, 0, none⟩ = some (errV au) := (hT.cell hn2).trans HH.out.2.2.2.2
    clear hle hstq hdq hT hn0 hn2
    rcases herr with rfl | ⟨rfl, hq2, hend⟩
    · rcases (show q = 2 ∨ q = 0 ∨ q = 1 by omega) with rfl | rfl | rfl
      · clear hq
        go_wp2
        go_ret2
        exact ⟨HQ.out.2.2.2, .inl ⟨HQ.out.1, rfl, HQ.out.2.1, HQ.out.2.2.1⟩⟩
      · clear hq
        go_wp2
        by_cases hlt : p < s.size
        · have HC : Hid (∀ W : World, Tch [] wr W → Calls Tryd.prog 31 #[.pointer (some ⟨bR, 0, none⟩), .slice (some ⟨d, 0, none⟩) 2 2] W fun e w' => ∃ k, e = .returned (.tuple #[.int .i64 (k : Nat), .nilIface]) ∧ 1 ≤ k ∧ k ≤ 2 ∧ p + k ≤ s.size ∧
              St bR bS bB s (p + k) w' ∧ w'.heap[d]? = some (.cells (splice cur 0 (seg s p k)).toArray td (0, 0)) ∧ Tch [bR, bS, bB, d] W w') := by
            intro W hW
            obtain ⟨q1, q2, q3, q4⟩ := HQ.out
            have e0 : splice cur 0 (seg s p 0) = cur := by simp [splice, seg, Lib.byteCells]
            rw [e0] at q3
            exact read_some bR bS bB d 0 2 2 p td s cur W (q2.later (hW.block _ (by simp)) (hW.block _ (by simp)) (hW.block _ (by simp))) hlt ((hW.block _ (by simp)).trans q3) HH.out.2.1 (by decide) (by decide) (by rw [HH.out.1]; decide)
          have hna := nil_ahead
          go_region_held3 (fun _ => True) (first | trivial) ((go_at_call 31; refine (HC.out _ ((Tch.refl _ _).drew)).mono ?_; rintro e w' ⟨k, rfl, hk1, hk2, hk3, hst', hd', hT'⟩))
          have HK := hid (And.intro hk1 (And.intro hk2 (And.intro hk3 (And.intro hst' (And.intro hd' hT')))))
          have b1 : (1 : Int) ≤ (k : Int) := by omega
          have b2 : (k : Int) ≤ 2 := by omega
          clear hk1 hk2 hk3 hst' hd' hT' HC
          go_wp2
          obtain ⟨k1, k2, k3, k4, k5, k6⟩ := HK.out
          refine ⟨⟨k, k2, rfl, k3, k4, k5, HQ.out.2.2.2.drew.trans k6, .inl rfl⟩, ?_⟩
          simp [meas, intOf]
          omega
        · have HC : Hid (∀ W : World, Tch [] wr W → Calls Tryd.prog 31 #[.pointer (some ⟨bR, 0, none⟩), .slice (some ⟨d, 0, none⟩) 2 2] W fun e w' => e = .returned (.tuple #[.int .i64 0, errV ae]) ∧ St bR bS bB s (p + 0) w' ∧ Tch [bR] W w') := by
            intro W hW
            obtain ⟨q1, q2, q3, q4⟩ := HQ.out
            exact read_end bR bS bB 2 2 (p + 0) (some ⟨d, 0, none⟩) ae s W (q2.later (hW.block _ (by simp)) (hW.block _ (by simp)) (hW.block _ (by simp))) (by omega) ((hW.cell (by simp)).trans ce) (by decide)
          have hna := nil_ahead
          go_region_held3 (fun _ => True) (first | trivial) ((go_at_call 31; refine (HC.out _ ((Tch.refl _ _).drew)).mono ?_; rintro e w' ⟨rfl, hst', hT'⟩))
          have HK := hid (And.intro hst' hT')
          clear hst' hT' HC
          go_wp2
          obtain ⟨k4, k6⟩ := HK.out
          obtain ⟨q1, q2, q3, q4⟩ := HQ.out
          refine ⟨⟨0, by omega, rfl, q1, k4, (k6.block d (by simp; intro e; exact HH.out.2.1 (by simp [e]))).trans q3, q4.drew.trans (k6.mono (by simp)), .inr ⟨rfl, by omega, by omega⟩⟩, ?_⟩
          simp [meas, intOf]
      · clear hq
        go_wp2
        by_cases hlt : p + 1 < s.size
        · have HC : Hid (∀ W : World, Tch [] wr W → Calls Tryd.prog 31 #[.pointer (some ⟨bR, 0, none⟩), .slice (some ⟨d, 1, none⟩) 1 1] W fun e w' => ∃ k, e = .returned (.tuple #[.int .i64 (k : Nat), .nilIface]) ∧ 1 ≤ k ∧ k ≤ 1 ∧ p + 1 + k ≤ s.size ∧
              St bR bS bB s (p + 1 + k) w' ∧ w'.heap[d]? = some (.cells (splice (splice cur 0 (seg s p 1)) 1 (seg s (p + 1) k)).toArray td (0, 0)) ∧ Tch [bR, bS, bB, d] W w') := by
            intro W hW
            obtain ⟨q1, q2, q3, q4⟩ := HQ.out
            have hl : (splice cur 0 (seg s p 1)).length = 2 := by
              have := seg_length s p 1 (by omega)
              rw [length_splice _ _ _ (by rw [HH.out.1]; omega), HH.out.1]
            exact read_some bR bS bB d 1 1 1 (p + 1) td s (splice cur 0 (seg s p 1)) W (q2.later (hW.block _ (by simp)) (hW.block _ (by simp)) (hW.block _ (by simp))) hlt ((hW.block _ (by simp)).trans q3) HH.out.2.1 (by decide) (by decide) (by rw [hl]; decide)
          have hna := nil_ahead
          go_region_held3 (fun _ => True) (first | trivial) ((go_at_call 31; refine (HC.out _ ((Tch.refl _ _).drew)).mono ?_; rintro e w' ⟨k, rfl, hk1, hk2, hk3, hst', hd', hT'⟩))
          obtain rfl : k = 1 := by omega
          have HK := hid (And.intro hk3 (And.intro hst' (And.intro hd' hT')))
          clear hk1 hk2 hk3 hst' hd' hT' HC
          go_wp2
          obtain ⟨k3, k4, k5, k6⟩ := HK.out
          have e2 : splice (splice cur 0 (seg s p 1)) 1 (seg s (p + 1) 1) = splice cur 0 (seg s p 2) := by
            have h := splice_next cur (seg s p 1) (seg s (p + 1) 1)
            rwa [seg_length s p 1 (by omega), seg_append s p 1 1] at h
          rw [e2] at k5
          refine ⟨⟨2, by omega, rfl, k3, k4, k5, HQ.out.2.2.2.drew.trans k6, .inl rfl⟩, ?_⟩
          simp [meas, intOf]
        · have HC : Hid (∀ W : World, Tch [] wr W → Calls Tryd.prog 31 #[.pointer (some ⟨bR, 0, none⟩), .slice (some ⟨d, 1, none⟩) 1 1] W fun e w' => e = .returned (.tuple #[.int .i64 0, errV ae]) ∧ St bR bS bB s (p + 1) w' ∧ Tch [bR] W w') := by
            intro W hW
            obtain ⟨q1, q2, q3, q4⟩ := HQ.out
            exact read_end bR bS bB 1 1 (p + 1) (some ⟨d, 1, none⟩) ae s W (q2.later (hW.block _ (by simp)) (hW.block _ (by simp)) (hW.block _ (by simp))) (by omega) ((hW.cell (by simp)).trans ce) (by decide)
          have hna := nil_ahead
          go_region_held3 (fun _ => True) (first | trivial) ((go_at_call 31; refine (HC.out _ ((Tch.refl _ _).drew)).mono ?_; rintro e w' ⟨rfl, hst', hT'⟩))
          have HK := hid (And.intro hst' hT')
          clear hst' hT' HC
          go_wp2
          obtain ⟨k4, k6⟩ := HK.out
          obtain ⟨q1, q2, q3, q4⟩ := HQ.out
          refine ⟨⟨1, by omega, rfl, q1, k4, (k6.block d (by simp; intro e; exact HH.out.2.1 (by simp [e]))).trans q3, q4.drew.trans (k6.mono (by simp)), .inr ⟨rfl, by omega, by omega⟩⟩, ?_⟩
          simp [meas, intOf]
    · have heq := err_same ae
      have HE := hid hend
      clear hend
      rcases (show q = 0 ∨ q = 1 by omega) with rfl | rfl
      · clear hq hq2
        go_wp2
        go_ret2
        refine ⟨HQ.out.2.2.2, .inr ⟨by have := HE.out; omega, ⟨0, ae, rfl⟩, ?_⟩⟩
        have := HQ.out.2.1
        rwa [HE.out] at this
      · clear hq hq2
        go_wp2
        go_ret2
        refine ⟨HQ.out.2.2.2, .inr ⟨by have := HE.out; omega, ⟨1, au, rfl⟩, ?_⟩⟩
        have := HQ.out.2.1
        rwa [HE.out] at this
end Go.Proofs.Qxb6616163aDoor.rd
