import Derived.Test.Qxb6616163aDoorRows
import Derived.WalkKit
import Derived.ProofKit
import Derived.OpenShut
import Derived.ShutString
import Derived.Below
import Derived.Handy
import Derived.WalkSpells
import Derived.Laws.CopyOwn
import Derived.Lib.BufferWrite
import Derived.Lib.IndexBytes
import Derived.Deep.RegionHeld3
import Derived.Deep.QuietTactic
import Derived.BigQuiet
namespace Go.Proofs.Qxb6616163aDoor.rd
open Go.ChangeShapes Go.WideShapes Go.ChangeAt Go.RowKit
theorem hid {p : Prop} (h : p) : Hid p := h

/-! ### What a stretch of calls turns: the blocks of a list, and none else -/
structure Tch (l : List Nat) (w w' : World) : Prop where
  os : w'.os = w.os
  tape : w'.tape = w.tape
  output : w'.output = w.output
  size : w'.heap.size = w.heap.size
  block : ∀ k, k ∉ l → w'.heap[k]? = w.heap[k]?
theorem Tch.refl (l : List Nat) (w : World) : Tch l w w := ⟨rfl, rfl, rfl, rfl, fun _ _ => rfl⟩
theorem Tch.trans {l : List Nat} {a b c : World} (h : Tch l a b) (k : Tch l b c) : Tch l a c :=
  ⟨k.os.trans h.os, k.tape.trans h.tape, k.output.trans h.output, k.size.trans h.size, fun i hi => (k.block i hi).trans (h.block i hi)⟩
theorem Tch.mono {l l' : List Nat} {a b : World} (h : Tch l a b) (hl : ∀ x, x ∈ l → x ∈ l') : Tch l' a b :=
  ⟨h.os, h.tape, h.output, h.size, fun k hk => h.block k (fun hx => hk (hl k hx))⟩
theorem Tch.drew {l : List Nat} {a b : World} (h : Tch l a b) : Tch l a b.drew := ⟨h.os, h.tape, h.output, h.size, h.block⟩
theorem Tch.drewN {l : List Nat} {a b : World} (h : Tch l a b) (n : Nat) : Tch l a (b.drewN n) := h.trans ⟨rfl, rfl, rfl, rfl, fun _ _ => rfl⟩
theorem Tch.setCell {l : List Nat} {a b : World} (h : Tch l a b) {p : Addr} (hp : p.block ∈ l) (v : Value) : Tch l a (b.setCell p v) :=
  ⟨h.os, h.tape, h.output, by simp [h.size], fun k hk => (Below.heap_setCell b p v k (fun e => hk (e ▸ hp))).trans (h.block k hk)⟩
theorem Tch.setRow {l : List Nat} {a b : World} (h : Tch l a b) {g : Nat} (hp : g ∈ l) (cs : Array Value) : Tch l a (b.setRow g cs) :=
  ⟨h.os, h.tape, h.output, by simp [h.size], fun k hk => (setRow_other b g k cs (fun e => hk (e ▸ hp))).trans (h.block k hk)⟩
theorem Tch.cell {l : List Nat} {a b : World} (h : Tch l a b) {p : Addr} (hp : p.block ∉ l) : b.cell? p = a.cell? p := World.cell?_of_block (w := a) (h.block p.block hp)
theorem Tch.frozen {l : List Nat} {a b : World} (h : Tch l a b) {p : Addr} (hp : p.block ∉ l) : b.frozen? p = a.frozen? p := World.frozen?_of_block (w := a) (h.block p.block hp)
theorem Tch.below {l : List Nat} {B : Nat} {a b : World} (h : Tch l a b) (hl : ∀ x, x ∈ l → B ≤ x) : Below B a b :=
  ⟨h.os, h.tape, h.output, by rw [h.size]; exact Nat.le_refl _, fun k hk => h.block k (fun hx => by have := hl k hx; omega)⟩

/-- The cells of k bytes of s from place i on. -/
def seg (s : ByteArray) (i k : Nat) : List Value := Lib.byteCells ((s.data.toList.drop i).take k)
theorem seg_length (s : ByteArray) (i k : Nat) (h : i + k ≤ s.size) : (seg s i k).length = k := by
  have hs : s.data.toList.length = s.size := (Lib.size_eq s).symm
  simp [seg, Lib.byteCells]
  omega
theorem seg_one (s : ByteArray) (i k : Nat) : ∀ v ∈ seg s i k, v.oneCell' = true := Lib.byteCells_one _

/-- 'copy(dst, s)' of a string into a row, as much as fits. -/
theorem run_copy_str {P : Program} (w : World) (dT sT ty elem : TypeId) (g o dLen dCap : Nat) (s : ByteArray) (cur : List Value) (t : TypeId) (k : Nat)
    (hu : P.underlying dT = some (.slice elem)) (hs : (P.info? elem).map (·.size) = some 1) (hg : w.heap[g]? = some (.cells cur.toArray t (0, 0))) (hk : k = Nat.min s.size dLen) (hfit : o + k ≤ cur.length) :
    (Builtin.copy_ #[dT, sT] ty #[.slice (some ⟨g, o, none⟩) dLen dCap, .string s]).run P w =
      .ok (goInt k) (w.setRow g (splice cur o (seg s 0 k)).toArray) := by
  have hks : k ≤ s.size := by rw [hk]; exact Nat.min_le_left _ _
  have hlen : (seg s 0 k).length = k := seg_length s 0 k (by omega)
  have hst := run_storeCells_at P g o t (seg s 0 k) 0 cur.toArray w hg (by rw [hlen]; simpa using hfit) (seg_one _ _ _)
  have htk : List.take k (List.map (fun b : UInt8 => Value.int IntKind.u8 (b.toNat : Int)) s.data.toList) = seg s 0 k := by
    simp [seg, Lib.byteCells, List.map_take]
  rw [hlen] at hst
  simp only [Nat.add_zero] at hst
  cases hq : P.info? elem with
  | none => simp [hq] at hs
  | some i =>
    simp [Builtin.copy_, run_underlying hu, Builtin.lenOf, Builtin.firstCells, sizeOf, typeInfo, hq, ← hk]
    rw [htk, hst]
    simp [Result.andThen, splice, hlen, List.append_assoc]

/-- A known block's cell, and that it is not frozen. -/
theorem cell_of {w : World} {b j : Nat} {cs : Array Value} {t : TypeId} {v : Value} (h : w.heap[b]? = some (.cells cs t (0, 0))) (hj : cs[j]? = some v) : w.cell? ⟨b, j, none⟩ = some v := by
  simp [World.cell?, h, hj]
theorem free_of {w : World} {b j : Nat} {cs : Array Value} {t : TypeId} (h : w.heap[b]? = some (.cells cs t (0, 0))) : w.frozen? ⟨b, j, none⟩ = false := by
  simp [World.frozen?, h]
/-- A step law for a copy whose run is known. -/
theorem step_copy_run {P : Program} {ops : Array Oper} {o : Oper} {a : Act} {w : World} {K : Act → World → Prop} {Q : Exit → Act → World → Prop} {E : Prop}
    (hg : o.guard = none) (d x : Operand) (dT sT : TypeId) (hop : o.op = Op.call { callee := Callee.builtin Builtin.copy, args := #[d, x], argTypes := #[dT, sT] })
    (v u : Value) (hd : a.eval d = v) (hx : a.eval x = u) {v' : Value} {w' : World} (hr : (Builtin.copy_ #[dT, sT] o.type #[v, u]).run P w = .ok v' w') (hK : K (a.put o.dst v') w') :
    if Region.wanted o (yielded ops a.tmps) = true then Oper.wp P o a w K Q else E := by
  have hw : Region.wanted o (yielded ops a.tmps) = true := by simp [Region.wanted, hg]
  rw [if_pos hw]
  unfold Oper.wp
  simp [execOp, hop, resolve, invoke, builtin, hd, hx, hr, Result.andThen]
  exact hK

set_option maxHeartbeats 400000 in
/-- (*strings.Reader).Read at the end of the text: 0, io.EOF. -/
theorem sread_end (bS i : Nat) (pr : Int) (s : ByteArray) (dst eof : Value) (w : World)
    (hS : w.heap[bS]? = some (.cells #[.string s, .int .i64 i, .int .i64 pr] 39 (0, 0))) (he : w.cell? ⟨0, 0, none⟩ = some eof) (hi : (s.size : Int) ≤ (i : Int)) :
    Calls Tryd.prog 36 #[.pointer (some ⟨bS, 0, none⟩), dst] w fun e w' => e = .returned (.tuple #[.int .i64 0, eof]) ∧ Tch [] w w' := by
  have c0 : w.cell? ⟨bS, 0, none⟩ = some (.string s) := cell_of hS rfl
  have c1 : w.cell? ⟨bS, 1, none⟩ = some (.int .i64 i) := cell_of hS rfl
  clear hS
  go_enter Tryd.func36, Tryd.ntmps36
  go_wp2
  go_quiet (fail)
  go_wp2
  go_quiet (fail)
  go_wp2
  go_ret2
  exact ⟨rfl, ((Tch.refl _ _).drewN _).drewN _⟩

theorem setCell_block {w : World} {b : Nat} {cs : Array Value} {t : TypeId} (h : w.heap[b]? = some (.cells cs t (0, 0))) (j : Nat) (v : Value) : (w.setCell ⟨b, j, none⟩ v).heap[b]? = some (.cells (cs.setIfInBounds j v) t (0, 0)) :=
  heap_setCell_same w b j cs t v h
set_option maxHeartbeats 1000000 in
/-- (*strings.Reader).Read ahead of the end: as many bytes as there are and as fit. -/
theorem sread_some (bS d off m c i k : Nat) (td : TypeId) (pr : Int) (s : ByteArray) (cur : List Value) (w : World)
    (hS : w.heap[bS]? = some (.cells #[.string s, .int .i64 i, .int .i64 pr] 39 (0, 0))) (hd : w.heap[d]? = some (.cells cur.toArray td (0, 0))) (hne : d ≠ bS) (hfit : off + m ≤ cur.length)
    (hi : i < s.size) (hs : s.size ≤ 65536) (hk : k = Nat.min (s.size - i) m) :
    Calls Tryd.prog 36 #[.pointer (some ⟨bS, 0, none⟩), .slice (some ⟨d, off, none⟩) m c] w fun e w' => e = .returned (.tuple #[.int .i64 k, .nilIface]) ∧
      w'.heap[bS]? = some (.cells #[.string s, .int .i64 ((i + k : Nat) : Int), .int .i64 (-1)] 39 (0, 0)) ∧ w'.heap[d]? = some (.cells (splice cur off (seg s i k)).toArray td (0, 0)) ∧ Tch [bS, d] w w' := by
  have c0 : w.cell? ⟨bS, 0, none⟩ = some (.string s) := cell_of hS rfl
  have c1 : w.cell? ⟨bS, 1, none⟩ = some (.int .i64 i) := cell_of hS rfl
  have c2 : w.cell? ⟨bS, 2, none⟩ = some (.int .i64 pr) := cell_of hS rfl
  have z1 : w.frozen? ⟨bS, 1, none⟩ = false := free_of hS
  have z2 : w.frozen? ⟨bS, 2, none⟩ = false := free_of hS
  have hi' : (i : Int) < (s.size : Int) := by omega
  have hi0 : (0 : Int) ≤ (i : Int) := by omega
  have hi2 : (i : Int) ≤ (s.size : Int) := by omega
  have hs' : (s.size : Int) ≤ 65536 := by omega
  have HC : Hid (∀ W : World, W.heap[d]? = some (.cells cur.toArray td (0, 0)) → (Builtin.copy_ #[30, 9] 3 #[.slice (some ⟨d, off, none⟩) m c, .string (s.extract i s.size)]).run Tryd.prog W = .ok (goInt k) (W.setRow d (splice cur off (seg s i k)).toArray)) := by
    intro W hW
    have hsz : (s.extract i s.size).size = s.size - i := by simp
    have hkm : k ≤ m := by rw [hk]; exact Nat.min_le_right _ _
    have e : seg (s.extract i s.size) 0 k = seg s i k := by
      unfold seg
      rw [Lib.extract_to_end]
      simp
    rw [← e]
    exact run_copy_str W 30 9 3 5 d off m c (s.extract i s.size) cur td k Tryd.underlying30 (by kernel_rfl) hW (by rw [hsz]; exact hk) (by omega)
  have HS := hid hS
  have HD := hid hd
  have HK := hid (And.intro hfit (And.intro hk (And.intro hs hi)))
  clear hS hd hfit hk hs hi
  go_enter Tryd.func36, Tryd.ntmps36
  go_wp2
  go_quiet (fail)
  go_wp2
  obtain ⟨W1, e1⟩ : ∃ W, W = (w.drewN nq).setCell ⟨bS, 2, none⟩ (.int .i64 (-1)) := ⟨_, rfl⟩
  rw [← e1]
  have HS1 : Hid (W1.heap[bS]? = some (.cells #[.string s, .int .i64 i, .int .i64 (-1)] 39 (0, 0))) := by rw [e1]; exact hid (setCell_block (w := w.drewN nq) HS.out 2 _)
  have HD1 : Hid (W1.heap[d]? = some (.cells cur.toArray td (0, 0))) := by rw [e1]; exact hid ((Below.heap_setCell _ _ _ _ hne).trans HD.out)
  have HT1 : Hid (Tch [bS, d] w W1) := by rw [e1]; exact hid (((Tch.refl _ _).drewN _).setCell (by simp) _)
  have c0 : W1.cell? ⟨bS, 0, none⟩ = some (.string s) := cell_of HS1.out rfl
  have c1 : W1.cell? ⟨bS, 1, none⟩ = some (.int .i64 i) := cell_of HS1.out rfl
  have z1 : W1.frozen? ⟨bS, 1, none⟩ = false := free_of HS1.out
  clear e1 HS HD
  go_region_held3 (fun w' => w'.cell? ⟨bS, 0, none⟩ = some (.string s) ∧ w'.cell? ⟨bS, 1, none⟩ = some (.int .i64 i)) (first | go_keep | (constructor <;> (rw [cell_setRow_other _ _ _ _ (fun e => hne e.symm)]; first | exact c0 | exact c1))) ((refine step_copy_run (by rfl) _ _ _ _ (by rfl) _ _ (by rfl) (by rfl) (HC.out _ HD1.out) ?_))
  obtain ⟨W2, e2⟩ : ∃ W, W = W1.drew.setRow d (splice cur off (seg s i k)).toArray := ⟨_, rfl⟩
  rw [← e2]
  have HS2 : Hid (W2.heap[bS]? = some (.cells #[.string s, .int .i64 i, .int .i64 (-1)] 39 (0, 0))) := by rw [e2]; exact hid ((setRow_other _ _ _ _ (fun e => hne e.symm)).trans HS1.out)
  have HD2 : Hid (W2.heap[d]? = some (.cells (splice cur off (seg s i k)).toArray td (0, 0))) := by rw [e2]; exact hid (setRow_heap W1.drew d _ _ td (0, 0) HD1.out)
  have HT2 : Hid (Tch [bS, d] w W2) := by rw [e2]; exact hid (HT1.out.drew.setRow (by simp) _)
  clear e2 c0 c1 z1 HS1 HD1 HT1 HC
  rename_i hx; clear hx
  have c1 : W2.cell? ⟨bS, 1, none⟩ = some (.int .i64 i) := cell_of HS2.out rfl
  have z1 : W2.frozen? ⟨bS, 1, none⟩ = false := free_of HS2.out
  have hik : (i : Int) + (k : Int) ≤ 65536 := by
    have h1 := HK.out.2.1
    have h2 : k ≤ s.size - i := by rw [h1]; exact Nat.min_le_left _ _
    omega
  go_wp2
  go_ret2
  refine ⟨rfl, ?_, (Below.heap_setCell _ _ _ _ hne).trans HD2.out, HT2.out.setCell (by simp) _⟩
  have e := setCell_block HS2.out 1 (.int .i64 ((i : Int) + (k : Int)))
  rw [e]
  simp
end Go.Proofs.Qxb6616163aDoor.rd
