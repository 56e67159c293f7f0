import Derived.Test.Qxb6616163aDoorCr
import Derived.Laws.BytesArg
namespace Go.Proofs.Qxb6616163aDoor.rd
open Go.ChangeShapes Go.WideShapes Go.ChangeAt Go.RowKit
/-- What a stretch of calls turns that may lay new blocks. -/
structure Grw (l : List Nat) (w w' : World) : Prop where
  os : w'.os = w.os
  tape : w'.tape = w.tape
  output : w'.output = w.output
  size : w.heap.size ≤ w'.heap.size
  block : ∀ k, k < w.heap.size → k ∉ l → w'.heap[k]? = w.heap[k]?
theorem Grw.refl (l : List Nat) (w : World) : Grw l w w := ⟨rfl, rfl, rfl, Nat.le_refl _, fun _ _ _ => rfl⟩
theorem Grw.trans {l : List Nat} {a b c : World} (h : Grw l a b) (k : Grw l b c) : Grw l a c :=
  ⟨k.os.trans h.os, k.tape.trans h.tape, k.output.trans h.output, Nat.le_trans h.size k.size, fun i hi hn => (k.block i (Nat.lt_of_lt_of_le hi h.size) hn).trans (h.block i hi hn)⟩
theorem Tch.grw {l l' : List Nat} {a b : World} (h : Tch l a b) (hl : ∀ x, x < a.heap.size → x ∈ l → x ∈ l') : Grw l' a b :=
  ⟨h.os, h.tape, h.output, Nat.le_of_eq h.size.symm, fun k hk hn => h.block k (fun hx => hn (hl k hk hx))⟩
theorem Grw.alloc {l : List Nat} {a b : World} (h : Grw l a b) (o : Obj) : Grw l a (b.alloc o) :=
  ⟨h.os, h.tape, h.output, by rw [World.size_alloc]; have := h.size; omega, fun k hk hn => (Below.heap_alloc b o k (Nat.lt_of_lt_of_le hk h.size)).trans (h.block k hk hn)⟩
theorem Grw.drew {l : List Nat} {a b : World} (h : Grw l a b) : Grw l a b.drew := ⟨h.os, h.tape, h.output, h.size, h.block⟩
/-- Behind a new block and a stretch that may turn it too. -/
theorem Grw.step {l : List Nat} {a b c : World} {o : Obj} (h : Grw l a b) (k : Tch (l ++ [b.heap.size]) (b.alloc o) c) : Grw l a c := by
  have hs := h.size
  refine ⟨k.os.trans h.os, k.tape.trans h.tape, k.output.trans h.output, ?_, fun i hi hn => ?_⟩
  · rw [k.size, World.size_alloc]; omega
  · rw [k.block i (by simp; exact ⟨hn, by omega⟩), Below.heap_alloc b o i (by omega)]
    exact h.block i hi hn
theorem Grw.cell {l : List Nat} {a b : World} (h : Grw l a b) {p : Addr} (hp : p.block < a.heap.size) (hn : p.block ∉ l) : b.cell? p = a.cell? p := World.cell?_of_block (w := a) (h.block p.block hp hn)
theorem Grw.below {l : List Nat} {B : Nat} {a b : World} (h : Grw l a b) (hB : B ≤ a.heap.size) (hl : ∀ x, x ∈ l → B ≤ x) : Below B a b :=
  ⟨h.os, h.tape, h.output, h.size, fun k hk => h.block k (by omega) (fun hx => by have := hl k hx; omega)⟩

/-- Does CR LF stand in s at p? -/
def pair (s : ByteArray) (p : Nat) : Bool := decide ((s.data.toList.drop p).take 2 = [13, 10])
theorem pair_le {s : ByteArray} {p : Nat} (h : pair s p = true) : p + 2 ≤ s.size := by
  have h' := of_decide_eq_true h
  have := congrArg List.length h'
  have hs := Lib.size_eq s
  simp at this
  omega

/-- io.ReadFull into a row of two. -/
theorem full (bR bS bB d p : Nat) (td : TypeId) (s : ByteArray) (cur : List Value) (ae au : Addr) (w : World) (hst : St bR bS bB s p w) (hd : w.heap[d]? = some (.cells cur.toArray td (0, 0))) (hcur : cur.length = 2)
    (hdn : d ∉ [bR, bS, bB]) (hg : ∀ x ∈ [bR, bS, bB, d], 4 ≤ x) (he : w.cell? ⟨0, 0, none⟩ = some (errV ae)) (hu : w.cell? ⟨2, 0, none⟩ = some (errV au)) :
    Calls Tryd.prog 13 #[.iface 23 (.pointer (some ⟨bR, 0, none⟩)), .slice (some ⟨d, 0, none⟩) 2 2] w fun e w' => Tch [bR, bS, bB, d] w w' ∧
      ((p + 2 ≤ s.size ∧ e = .returned (.tuple #[.int .i64 2, .nilIface]) ∧ St bR bS bB s (p + 2) w' ∧ w'.heap[d]? = some (.cells (splice cur 0 (seg s p 2)).toArray td (0, 0))) ∨
       (¬ p + 2 ≤ s.size ∧ (∃ (q : Nat) (a : Addr), e = .returned (.tuple #[.int .i64 q, errV a])) ∧ St bR bS bB s s.size w')) := by
  have HH := hid (And.intro hst (And.intro hd (And.intro hcur (And.intro hdn (And.intro hg (And.intro he hu))))))
  clear hst hd hcur hdn hg he hu
  go_enter Tryd.func13, Tryd.ntmps13
  go_wp2_with fail
  obtain ⟨q1, q2, q3, q4, q5, q6, q7⟩ := HH.out
  refine (atLeast bR bS bB d p td s cur ae au w q1 q2 q3 q4 q5 q6 q7).mono ?_
  clear q1 q2 q3 q4 q5 q6 q7
  rintro e w1 ⟨hT, hh⟩
  have HT := hid hT
  clear hT
  rcases hh with ⟨a1, rfl, a3, a4⟩ | ⟨a1, ⟨q, a, rfl⟩, a3⟩
  · have HA := hid (And.intro a1 (And.intro a3 a4))
    clear a1 a3 a4
    go_wp2
    go_ret2
    exact ⟨HT.out, .inl ⟨HA.out.1, rfl, HA.out.2.1, HA.out.2.2⟩⟩
  · have HA := hid (And.intro a1 a3)
    clear a1 a3
    go_wp2
    go_ret2
    exact ⟨HT.out, .inr ⟨HA.out.1, ⟨q, a, rfl⟩, HA.out.2⟩⟩

theorem two_of {l : List UInt8} (h : l.length = 2) : ∃ a b, l = [a, b] := by
  match l, h with
  | [a, b], _ => exact ⟨a, b, rfl⟩
/-- readCRLF: true just where CR LF stands there; two bytes more are given, or all that were left. -/
theorem crlf (bR bS bB p : Nat) (s : ByteArray) (ae au : Addr) (w : World) (hst : St bR bS bB s p w) (hlt : ∀ x ∈ [bR, bS, bB], 4 ≤ x ∧ x < w.heap.size) (he : w.cell? ⟨0, 0, none⟩ = some (errV ae)) (hu : w.cell? ⟨2, 0, none⟩ = some (errV au)) :
    Calls Tryd.prog 10 #[.pointer (some ⟨bR, 0, none⟩)] w fun e w' => e = .returned (.bool (pair s p)) ∧ St bR bS bB s (Nat.min (p + 2) s.size) w' ∧ Grw [bR, bS, bB] w w' := by
  have HH := hid (And.intro hst (And.intro hlt (And.intro he hu)))
  have hgl : 3 < w.heap.size := by have := (hlt bR (by simp)); omega
  clear hst hlt he hu
  obtain ⟨O, hO⟩ : ∃ O : Obj, O = .cells #[.int .u8 0, .int .u8 0] 40 := ⟨_, rfl⟩
  have HW : Hid (St bR bS bB s p (w.alloc O) ∧ (w.alloc O).heap[w.heap.size]? = some (.cells ([.int .u8 0, .int .u8 0] : List Value).toArray 40 (0, 0)) ∧ (w.heap.size ∉ [bR, bS, bB]) ∧ (∀ x ∈ [bR, bS, bB, w.heap.size], 4 ≤ x) ∧ (w.alloc O).cell? ⟨0, 0, none⟩ = some (errV ae) ∧ (w.alloc O).cell? ⟨2, 0, none⟩ = some (errV au)) := by
    obtain ⟨q1, q2, q3, q4⟩ := HH.out
    have b1 := q2 bR (by simp)
    have b2 := q2 bS (by simp)
    have b3 := q2 bB (by simp)
    refine ⟨q1.later (Below.heap_alloc _ _ _ b1.2) (Below.heap_alloc _ _ _ b2.2) (Below.heap_alloc _ _ _ b3.2), ?_, ?_, ?_, ?_, ?_⟩
    · rw [hO]; exact heap_alloc_new w _
    · intro h; have := (q2 _ h).2; omega
    · intro x hx
      simp only [List.mem_cons, List.not_mem_nil, or_false] at hx
      rcases hx with rfl | rfl | rfl | rfl <;> omega
    · rw [World.cell?_alloc_past _ _ _ (by omega)]; exact q3
    · rw [World.cell?_alloc_past _ _ _ (by omega)]; exact q4
  go_enter Tryd.func10, Tryd.ntmps10
  go_wp2_with fail
  rw [← hO]
  clear hO
  obtain ⟨q1, q2, q3, q4, q5, q6⟩ := HW.out
  refine (full bR bS bB w.heap.size p 40 s _ ae au (w.alloc O) q1 q2 rfl q3 q4 q5 q6).mono ?_
  clear q1 q2 q3 q4 q5 q6
  rintro e w1 ⟨hT, hh⟩
  have HT := hid hT
  clear hT
  rcases hh with ⟨a1, rfl, a3, a4⟩ | ⟨a1, ⟨q, a, rfl⟩, a3⟩
  · obtain ⟨u0, u1, hu⟩ : ∃ a b, (s.data.toList.drop p).take 2 = [a, b] := two_of (by have := Lib.size_eq s; rw [List.length_take, List.length_drop]; omega)
    have hsg : seg s p 2 = [.int .u8 (u0.toNat : Int), .int .u8 (u1.toNat : Int)] := by unfold seg; rw [hu]; rfl
    have hpr : pair s p = decide ([u0, u1] = [13, 10]) := by unfold pair; rw [hu]
    rw [hsg] at a4
    have hcv := run_convert_bytes_arg (P := Tryd.prog) w1 30 5 Tryd.underlying30 Tryd.underlying5 w.heap.size 0 2 2 [(u0.toNat : Int), (u1.toNat : Int)] rfl (fun i hi => by
      match i, hi with
      | 0, _ => exact cell_of a4 rfl
      | 1, _ => exact cell_of a4 rfl) 9 Tryd.underlying9
    have HA := hid (And.intro a1 a3)
    have HP := hid hpr
    clear a1 a3 a4 hsg hpr hu
    go_wp2
    go_ret
    refine ⟨congrArg (fun b => Ending.returned (.bool b)) (?_ : _ = pair s p), ?_, Grw.step (Grw.refl _ _) HT.out⟩
    · have e : (strOfNums [(u0.toNat : Int), (u1.toNat : Int)]).toList = [u0, u1] := by
        rw [ByteArray.toList_eq, strOfNums_data]
        simp
      rw [HP.out]
      show ((strOfNums [(u0.toNat : Int), (u1.toNat : Int)]).toList == [13, 10]) = _
      rw [e, Bool.eq_iff_iff]
      simp
    · rw [show Nat.min (p + 2) s.size = p + 2 from Nat.min_eq_left HA.out.1]
      exact HA.out.2
  · have HA := hid (And.intro a1 a3)
    clear a1 a3
    go_wp2
    go_ret
    have hp : pair s p = false := by
      cases h : pair s p with
      | false => rfl
      | true => exact absurd (pair_le h) HA.out.1
    rw [hp]
    refine ⟨rfl, ?_, Grw.step (Grw.refl _ _) HT.out⟩
    rw [show Nat.min (p + 2) s.size = s.size from Nat.min_eq_right (by have := HA.out.1; omega)]
    exact HA.out.2

/-- ZZreadCRLF. -/
theorem zcrlf (bR bS bB p : Nat) (s : ByteArray) (ae au : Addr) (w : World) (hst : St bR bS bB s p w) (hlt : ∀ x ∈ [bR, bS, bB], 4 ≤ x ∧ x < w.heap.size) (he : w.cell? ⟨0, 0, none⟩ = some (errV ae)) (hu : w.cell? ⟨2, 0, none⟩ = some (errV au)) :
    Calls Tryd.prog 6 #[.pointer (some ⟨bR, 0, none⟩)] w fun e w' => e = .returned (.bool (pair s p)) ∧ St bR bS bB s (Nat.min (p + 2) s.size) w' ∧ Grw [bR, bS, bB] w w' := by
  have HH := hid (And.intro hst (And.intro hlt (And.intro he hu)))
  clear hst hlt he hu
  go_enter Tryd.func6, Tryd.ntmps6
  go_wp2_with fail
  refine (crlf bR bS bB p s ae au w HH.out.1 HH.out.2.1 HH.out.2.2.1 HH.out.2.2.2).mono ?_
  rintro e w1 ⟨rfl, h1, h2⟩
  have HA := hid (And.intro h1 h2)
  clear h1 h2
  go_wp2
  go_ret
  exact ⟨rfl, HA.out.1, HA.out.2⟩
end Go.Proofs.Qxb6616163aDoor.rd
