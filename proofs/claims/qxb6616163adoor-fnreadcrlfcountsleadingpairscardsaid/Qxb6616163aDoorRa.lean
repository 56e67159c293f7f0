import Derived.Test.Qxb6616163aDoorNw
import Derived.Maps.AppendAt
import Derived.Lib.AppendZeros
namespace Go.Proofs.Qxb6616163aDoor.rd
open Go.ChangeShapes Go.WideShapes Go.ChangeAt Go.RowKit

/-- A chunk that io.ReadAll has put aside: its block, its length, its capacity, what its block holds. -/
structure Chunk where
  g : Nat
  len : Nat
  cap : Nat
  data : List Value
def Chunk.val (c : Chunk) : Value := .slice (some ⟨c.g, 0, none⟩) c.len c.cap
def Chunk.bytes (c : Chunk) : List Value := c.data.take c.len
def Chunk.Lies (c : Chunk) (w : World) : Prop := w.heap[c.g]? = some (.cells c.data.toArray 5 (0, 0)) ∧ c.len ≤ c.data.length

/-- io.ReadAll UNDER WAY: the current slice (block g, len of cap), the chunks put aside, f bytes in them; the reader has given p0 + f + len bytes. -/
structure RM (bR bS bB p0 : Nat) (s : ByteArray) (w0 : World) (g len cap nx f : Nat) (cur : List Value) (cs : List Chunk) (row : Value) (wr : World) : Prop where
  cell : wr.heap[g]? = some (.cells cur.toArray 5 (0, 0))
  clen : cur.length = cap
  dat : cur.take len = seg s (p0 + f) len
  own : wr.ownsRow w0.heap.size 30 1 row cs.length (cs.map Chunk.val)
  ck : ∀ c ∈ cs, c.Lies wr ∧ c.g ≠ g ∧ w0.heap.size ≤ c.g ∧ row.ownBlock ≠ some c.g
  flat : cs.flatMap Chunk.bytes = seg s p0 f
  rg : row.ownBlock ≠ some g
  gg : w0.heap.size ≤ g
  st : St bR bS bB s (p0 + f + len) wr
  grw : Grw [bR, bS, bB] w0 wr
  lc : len ≤ cap
  c256 : 256 ≤ cap
  cmx : cap ≤ maxLen
  n3 : 2 * nx ≤ 3 * cap
  n256 : 256 ≤ nx
  nf : nx ≤ f + 256
  cf : cs.length ≤ f

theorem Grw.far {l m : List Nat} {a b c : World} (h : Grw l a b) (k : Tch m b c) (hm : ∀ x, x ∈ m → x ∈ l ∨ a.heap.size ≤ x) : Grw l a c := by
  refine ⟨k.os.trans h.os, k.tape.trans h.tape, k.output.trans h.output, by rw [k.size]; exact h.size, fun i hi hn => (k.block i (fun hx => ?_)).trans (h.block i hi hn)⟩
  rcases hm i hx with h1 | h1
  · exact hn h1
  · omega
theorem Grw.grown {l : List Nat} {a b c : World} {row : Option Nat} (h : Grw l a b) (k : b.grownBy c row) (hr : ∀ x, row = some x → a.heap.size ≤ x) : Grw l a c := by
  refine ⟨k.os.trans h.os, k.tape.trans h.tape, k.output.trans h.output, Nat.le_trans h.size k.size, fun i hi hn => (k.block i (Nat.lt_of_lt_of_le hi h.size) (fun e => ?_)).trans (h.block i hi hn)⟩
  have := hr i e.symm
  omega
theorem own_block {w w' : World} {B : Nat} {e : TypeId} {v : Value} {n : Nat} {xs : List Value} (h : w.ownsRow B e 1 v n xs) (hb : ∀ k, v.ownBlock = some k → w'.heap[k]? = w.heap[k]?) : w'.ownsRow B e 1 v n xs := by
  refine ⟨h.1, ?_⟩
  rcases h.2 with h0 | ⟨g, cap, cur, hv, hB, hg, rest⟩
  · exact .inl h0
  · exact .inr ⟨g, cap, cur, hv, hB, (hb g (by rw [hv]; rfl)).trans hg, rest⟩

theorem splice_take (cur src : List Value) (len : Nat) (h : len + src.length ≤ cur.length) : (splice cur len src).take (len + src.length) = cur.take len ++ src := by
  unfold splice
  have h1 : (cur.take len).length = len := by rw [List.length_take]; omega
  rw [← List.append_assoc, List.take_append_of_le_length (by simp; omega), List.take_of_length_le (by simp; omega)]

/-- BEHIND A READ of k bytes into the current slice's room. -/
theorem RM.read {bR bS bB p0 : Nat} {s : ByteArray} {w0 : World} {g len cap nx f : Nat} {cur : List Value} {cs : List Chunk} {row : Value} {wr w' : World} (h : RM bR bS bB p0 s w0 g len cap nx f cur cs row wr)
    (hb : ∀ x ∈ [bR, bS, bB], x < w0.heap.size) {k : Nat} (hk : len + k ≤ cap) (hks : p0 + f + len + k ≤ s.size) (hst : St bR bS bB s (p0 + f + len + k) w') (hd : w'.heap[g]? = some (.cells (splice cur len (seg s (p0 + f + len) k)).toArray 5 (0, 0)))
    (hT : Tch [bR, bS, bB, g] wr w') : RM bR bS bB p0 s w0 g (len + k) cap nx f (splice cur len (seg s (p0 + f + len) k)) cs row w' := by
  have hsl := seg_length s (p0 + f + len) k hks
  have far : ∀ x, w0.heap.size ≤ x → x ≠ g → x ∉ [bR, bS, bB, g] := by
    intro x hx hg hm
    simp only [List.mem_cons, List.not_mem_nil, or_false] at hm
    rcases hm with rfl | rfl | rfl | rfl
    · have := hb x (by simp); omega
    · have := hb x (by simp); omega
    · have := hb x (by simp); omega
    · exact hg rfl
  refine { cell := hd, clen := ?_, dat := ?_, own := own_block h.own (fun x hx => hT.block x (far x (h.own.lt x hx).1 (fun e => h.rg (by rw [hx, e])))), ck := fun c hc => ?_, flat := h.flat, rg := h.rg, gg := h.gg, st := by rw [← Nat.add_assoc]; exact hst, grw := ?_, lc := hk, c256 := h.c256, cmx := h.cmx, n3 := h.n3, n256 := h.n256, nf := h.nf, cf := h.cf }
  · rw [length_splice _ _ _ (by rw [hsl, h.clen]; exact hk), h.clen]
  · have e := splice_take cur (seg s (p0 + f + len) k) len (by rw [hsl, h.clen]; exact hk)
    rw [hsl] at e
    rw [e, h.dat, seg_append]
  · obtain ⟨⟨c1, c2⟩, c3, c4, c5⟩ := h.ck c hc
    exact ⟨⟨(hT.block c.g (far c.g c4 c3)).trans c1, c2⟩, c3, c4, c5⟩
  · refine h.grw.far hT fun x hx => ?_
    simp only [List.mem_cons, List.not_mem_nil, or_false] at hx ⊢
    rcases hx with rfl | rfl | rfl | rfl
    · exact .inl (.inl rfl)
    · exact .inl (.inr (.inl rfl))
    · exact .inl (.inr (.inr rfl))
    · exact .inr h.gg

/-- BEHIND THE PUTTING ASIDE: the current slice appended to the chunks, a new one made. -/
theorem RM.next {bR bS bB p0 : Nat} {s : ByteArray} {w0 : World} {g len cap nx f : Nat} {cur : List Value} {cs : List Chunk} {row : Value} {wr : World} (h : RM bR bS bB p0 s w0 g len cap nx f cur cs row wr)
    (hb : ∀ x ∈ [bR, bS, bB], x < w0.heap.size) {o : Obj} {w2 w3 : World} {row' : Value} {cap' : Nat} {cur' : List Value} (hl : cap - len < cap / 16)
    (hown : w2.ownsRow w0.heap.size 30 1 row' (cs.length + 1) (cs.map Chunk.val ++ [.slice (some ⟨g, 0, none⟩) len cap])) (hgrow : (wr.alloc o).grownBy w2 row.ownBlock) (hat : row'.ownBlock = row.ownBlock ∨ row'.ownBlock = some (wr.heap.size + 1))
    (h3 : w3 = w2.drew.alloc (.cells cur'.toArray 5)) (hc : cur'.length = cap') (hn : nx ≤ cap') (hm : cap' ≤ maxLen) :
    RM bR bS bB p0 s w0 w2.heap.size 0 cap' (nx + nx / 2) (f + len) cur' (cs ++ [⟨g, len, cap, cur⟩]) row' w3 := by
  subst h3
  have hs1 : wr.heap.size + 1 ≤ w2.heap.size := by have := hgrow.size; rwa [World.size_alloc] at this
  have hgs : g < wr.heap.size := (Array.getElem?_eq_some_iff.1 h.cell).1
  have hrow : ∀ x, row.ownBlock = some x → w0.heap.size ≤ x ∧ x < wr.heap.size := fun x hx => h.own.lt x hx
  have hrow' : ∀ x, row'.ownBlock = some x → w0.heap.size ≤ x ∧ x < w2.heap.size := fun x hx => hown.lt x hx
  have keep : ∀ x, x < wr.heap.size → row.ownBlock ≠ some x → (w2.drew.alloc (.cells cur'.toArray 5)).heap[x]? = wr.heap[x]? := by
    intro x hx hr
    rw [Below.heap_alloc w2.drew _ x (by show x < w2.heap.size; omega)]
    show w2.heap[x]? = _
    rw [hgrow.block x (by rw [World.size_alloc]; omega) (fun e => hr e.symm), Below.heap_alloc wr o x hx]
  have hrg' : ∀ x, x < wr.heap.size → row.ownBlock ≠ some x → row'.ownBlock ≠ some x := by
    intro x hx hr e
    rcases hat with h1 | h1
    · exact hr (h1 ▸ e)
    · rw [h1] at e; have := Option.some.inj e; omega
  have hlc := h.lc
  have hc2 := h.c256
  refine { cell := ?_, clen := hc, dat := by simp [seg, Lib.byteCells], own := ?_, ck := ?_, flat := ?_, rg := ?_, gg := ?_, st := ?_, grw := ?_, lc := Nat.zero_le _, c256 := ?_, cmx := hm, n3 := by omega, n256 := ?_, nf := ?_, cf := ?_ }
  · exact heap_alloc_new w2.drew _
  · simp only [List.length_append, List.length_cons, List.length_nil, List.map_append, List.map_cons, List.map_nil, Nat.zero_add]
    exact (hown.drew).alloc _
  · intro c hcm
    rw [List.mem_append, List.mem_singleton] at hcm
    rcases hcm with hcm | rfl
    · obtain ⟨⟨c1, c2⟩, c3, c4, c5⟩ := h.ck c hcm
      have hcs : c.g < wr.heap.size := (Array.getElem?_eq_some_iff.1 c1).1
      exact ⟨⟨(keep c.g hcs c5).trans c1, c2⟩, by omega, c4, hrg' c.g hcs c5⟩
    · exact ⟨⟨(keep g hgs h.rg).trans h.cell, by show len ≤ cur.length; rw [h.clen]; exact hlc⟩, by show g ≠ _; omega, h.gg, hrg' g hgs h.rg⟩
  · rw [List.flatMap_append, h.flat]
    show seg s p0 f ++ ([Chunk.bytes ⟨g, len, cap, cur⟩].flatten) = _
    simp only [List.flatten_cons, List.flatten_nil, List.append_nil, Chunk.bytes]
    rw [h.dat, seg_append]
  · intro e; have := (hrow' _ e).2; omega
  · have := h.grw.size; omega
  · have h0 := h.st
    rw [show p0 + (f + len) + 0 = p0 + f + len by omega]
    have hz : ∀ x ∈ [bR, bS, bB], (w2.drew.alloc (.cells cur'.toArray 5)).heap[x]? = wr.heap[x]? := by
      intro x hx
      have h1 := hb x hx
      have h2 := h.grw.size
      exact keep x (by omega) (fun e => by have := (hrow x e).1; omega)
    exact h0.later (hz _ (by simp)) (hz _ (by simp)) (hz _ (by simp))
  · exact (((h.grw.alloc o).grown hgrow (fun x hx => (hrow x hx).1)).drew).alloc _
  · have := h.n256; omega
  · have := h.n256; omega
  · have h1 := h.nf
    have h2 := h.n3
    omega
  · have h1 := h.cf
    simp only [List.length_append, List.length_cons, List.length_nil]
    omega
end Go.Proofs.Qxb6616163aDoor.rd
