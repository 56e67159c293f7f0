import Derived.Test.Qxb6616163aDoorRc
namespace Go.Proofs.Qxb6616163aDoor.rd
open Go.ChangeShapes Go.WideShapes Go.ChangeAt Go.RowKit
theorem info5 : (Tryd.prog.info? 5).map (fun i => (i.zero, i.size, i.bytes)) = some (some (.int .u8 0), 1, 1) := by kernel_rfl
theorem not_bufio (a : Addr) (w : World) : (Instr.typeAssert (.iface 28 (.pointer (some a))) 36 23 true).run Tryd.prog w = .ok (.tuple #[.pointer none, .bool false]) w := by kernel_rfl
set_option maxRecDepth 100000 in
theorem newr (s : ByteArray) (w : World) (hs : s.size ≤ 65536) :
    Calls Tryd.prog 5 #[.string s] w fun e w' => e = .returned (.pointer (some ⟨w.heap.size + 1, 0, none⟩)) ∧ St (w.heap.size + 1) w.heap.size (w.heap.size + 1 + 1) s 0 w' ∧ Below w.heap.size w w' ∧ w.heap.size + 3 ≤ w'.heap.size := by
  obtain ⟨i0, hi, hz0, hz1, hz2⟩ := info_parts info5
  have HI : Hid (Tryd.prog.info? 5 = some i0 ∧ i0.zero = some (.int .u8 0) ∧ i0.size = 1 ∧ i0.bytes = 1) := ⟨hi, hz0, hz1, hz2⟩
  clear hi hz0 hz1 hz2
  have hta := not_bufio
  go_enter Tryd.func5, Tryd.ntmps5
  go_wp2_with (first | (at_make; refine wpList_make_full _ rfl _ _ 30 rfl w.heap.size 5 i0 (.int .u8 0) 1 Tryd.underlying30 HI.out.1 HI.out.2.1 HI.out.2.2.1 _ _ _ _ 4096 rfl rfl rfl rfl (by rw [HI.out.2.2.2]; decide) (by decide) (by simp; omega) ?_) | go_in)
  intro w1 hown hgrow
  have h0 : w1.heap[w.heap.size]? = some (.cells #[.string s, .int .i64 0, .int .i64 (-1)] 39 (0, 0)) := by
    rw [hgrow.block _ (by simp; omega) (by simp)]
    rw [Below.heap_alloc _ _ _ (by simp)]
    exact heap_alloc_new w _
  have h1 : w1.heap[w.heap.size + 1]? = some (.cells #[.slice none 0 0, .nilIface, .int .i64 0, .int .i64 0, .nilIface, .int .i64 0, .int .i64 0] 47 (0, 0)) := by
    rw [hgrow.block _ (by simp) (by simp)]
    have := heap_alloc_new (w.alloc (Obj.cells #[Value.string s, Value.int IntKind.i64 0, Value.int IntKind.i64 (-1)] 39)) (.cells #[.slice none 0 0, .nilIface, .int .i64 0, .int .i64 0, .nilIface, .int .i64 0, .int .i64 0] 47 (0, 0))
    rwa [World.size_alloc] at this
  obtain ⟨buf, h2, hl, hby⟩ : ∃ buf : List Value, w1.heap[w.heap.size + 1 + 1]? = some (.cells buf.toArray 5 (0, 0)) ∧ buf.length = 4096 ∧ AreBytes buf := by
    rcases hown.2 with ⟨h, _⟩ | ⟨g, cap, cur, hv, _, hg, _, _, hcs, htk⟩
    · simp at h
    · simp only [Value.slice.injEq, Option.some.injEq, Addr.mk.injEq, and_true, true_and] at hv
      obtain ⟨rfl, rfl⟩ := hv
      have hcl : cur.toList.length = 4096 := by rw [Array.length_toList, hcs]
      have he : cur.toList = List.replicate 4096 (.int .u8 0) := by
        rw [List.take_of_length_le (by rw [hcl]; decide)] at htk
        rw [htk]
        exact toList_madeCells_one _ _
      refine ⟨cur.toList, by simpa using hg, hcl, ?_⟩
      rw [he]
      intro j x hx
      rw [List.getElem?_replicate] at hx
      split at hx
      · exact ⟨0, (Option.some.inj hx).symm⟩
      · cases hx
  have hb : Below w.heap.size w w1 := (((Below.refl _ _).alloc (Nat.le_refl _) _).alloc (by simp) _).grown hgrow (by simp; omega) (by simp)
  have hz : w.heap.size + 3 ≤ w1.heap.size := (Array.getElem?_eq_some_iff.1 h2).1
  have HA := hid (And.intro h0 (And.intro h1 (And.intro h2 (And.intro hl (And.intro hby (And.intro hb hz))))))
  clear hown hgrow h0 h2 hl hby hb hz
  have c0 : w1.cell? ⟨w.heap.size + 1, 0, none⟩ = some (.slice none 0 0) := cell_of h1 rfl
  have c1 : w1.cell? ⟨w.heap.size + 1, 1, none⟩ = some .nilIface := cell_of h1 rfl
  have c2 : w1.cell? ⟨w.heap.size + 1, 2, none⟩ = some (.int .i64 0) := cell_of h1 rfl
  have c3 : w1.cell? ⟨w.heap.size + 1, 3, none⟩ = some (.int .i64 0) := cell_of h1 rfl
  have c4 : w1.cell? ⟨w.heap.size + 1, 4, none⟩ = some .nilIface := cell_of h1 rfl
  have c5 : w1.cell? ⟨w.heap.size + 1, 5, none⟩ = some (.int .i64 0) := cell_of h1 rfl
  have c6 : w1.cell? ⟨w.heap.size + 1, 6, none⟩ = some (.int .i64 0) := cell_of h1 rfl
  have z0 : w1.frozen? ⟨w.heap.size + 1, 0, none⟩ = false := free_of h1
  have z1 : w1.frozen? ⟨w.heap.size + 1, 1, none⟩ = false := free_of h1
  have z2 : w1.frozen? ⟨w.heap.size + 1, 2, none⟩ = false := free_of h1
  have z3 : w1.frozen? ⟨w.heap.size + 1, 3, none⟩ = false := free_of h1
  have z4 : w1.frozen? ⟨w.heap.size + 1, 4, none⟩ = false := free_of h1
  have z5 : w1.frozen? ⟨w.heap.size + 1, 5, none⟩ = false := free_of h1
  have z6 : w1.frozen? ⟨w.heap.size + 1, 6, none⟩ = false := free_of h1
  clear h1
  have HS := hid hs
  clear hs
  go_wp2
  go_ret
  obtain ⟨q0, q1, q2, q3, q4, q5, q6⟩ := HA.out
  have e : w.heap.size ≠ w.heap.size + 1 := by omega
  have e2 : w.heap.size + 1 + 1 ≠ w.heap.size + 1 := by omega
  refine ⟨rfl, ⟨⟨by omega, by omega, by omega, HS.out⟩, 0, 0, 0, -1, -1, -1, buf, ?_, ?_, ?_, q3, q4, Nat.le_refl _, by decide, Nat.zero_le _, rfl, by simp [seg, Lib.byteCells]⟩, ?_, ?_⟩
  · exact (setCell_block (setCell_block (setCell_block (setCell_block (setCell_block (setCell_block (setCell_block q1 0 _) 1 _) 2 _) 3 _) 4 _) 5 _) 6 _).trans (by simp)
  · exact (Below.heap_setCell _ _ _ _ e).trans ((Below.heap_setCell _ _ _ _ e).trans ((Below.heap_setCell _ _ _ _ e).trans ((Below.heap_setCell _ _ _ _ e).trans ((Below.heap_setCell _ _ _ _ e).trans ((Below.heap_setCell _ _ _ _ e).trans ((Below.heap_setCell _ _ _ _ e).trans q0))))))
  · exact (Below.heap_setCell _ _ _ _ e2).trans ((Below.heap_setCell _ _ _ _ e2).trans ((Below.heap_setCell _ _ _ _ e2).trans ((Below.heap_setCell _ _ _ _ e2).trans ((Below.heap_setCell _ _ _ _ e2).trans ((Below.heap_setCell _ _ _ _ e2).trans ((Below.heap_setCell _ _ _ _ e2).trans q2))))))
  · refine ((((((q5.setCell ?_ _).setCell ?_ _).setCell ?_ _).setCell ?_ _).setCell ?_ _).setCell ?_ _).setCell ?_ _ <;> exact Nat.le_succ _
  · simpa using q6
end Go.Proofs.Qxb6616163aDoor.rd
