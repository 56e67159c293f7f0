import Derived.Test.Qxb6616213aRows
import Derived.WalkKit
import Derived.ProofKit
import Derived.OpenShut
import Derived.ShutString
import Derived.ChangeOld
import Derived.Below
import Derived.Handy
import Derived.Laws.AppendOwnNone
import Derived.Laws.CopyOwn
import Derived.Laws.BytesArg
namespace Go.Proofs.Qxb6616213a.enc
open Go.ChangeShapes Go.WideShapes Go.ChangeAt Go.RowKit
theorem info5 : (Try.prog.info? 5).map (fun i => (i.zero, i.size, i.bytes)) = some (some (.int .u8 0), 1, 1) := by kernel_rfl
/-- bytes.Join of one part, no separator: a copy of the part. -/
theorem join_one (b : Nat) (g n c : Nat) (zs : List Int) (w : World) (hb : w.cell? ⟨b, 0, none⟩ = some (.slice (some ⟨g, 0, none⟩) n c)) (hz : zs.length = n) (hn : n ≤ 1048576)
    (hc : ∀ j u, (zs.map (Value.int .u8))[j]? = some u → w.cell? ((⟨g, 0, none⟩ : Addr).add j) = some u) :
    Calls Try.prog 23 #[.slice (some ⟨b, 0, none⟩) 1 1, .slice none 0 0] w fun e w' => ∃ v, e = .returned v ∧ w'.ownsRow w.heap.size 5 1 v n (zs.map (Value.int .u8)) ∧ Below w.heap.size w w' := by
  obtain ⟨i0, hi, hz0, hz1, hz2⟩ := info_parts info5
  have HC : Hid (∀ j u, (zs.map (Value.int .u8))[j]? = some u → w.cell? ((⟨g, 0, none⟩ : Addr).add j) = some u) := hc
  have HZ : Hid (zs.length = n) := hz
  have HI : Hid (Try.prog.info? 5 = some i0 ∧ i0.zero = some (.int .u8 0) ∧ i0.size = 1 ∧ i0.bytes = 1) := ⟨hi, hz0, hz1, hz2⟩
  clear hc hz hi hz0 hz1 hz2
  go_enter Try.func23, Try.ntmps23
  go_wp2_with (at_builtin; refine wpList_append_own _ rfl _ _ 22 rfl w.heap.size 5 i0 (.int .u8 0) 1 1 Try.underlying22 HI.out.1 HI.out.2.1 HI.out.2.2.1 HI.out.2.2.2 rfl (by decide) _ _ _ rfl (World.ownsRow_nil _ _ _ _) ⟨g, 0, none⟩ n c (zs.map (Value.int .u8)) rfl ?c0 ?c1 ?c2 ?c3 ?c4 ?c5 ?_)
  case c0 => simp [HZ.out]
  case c1 => exact HC.out
  case c2 => exact ints_oneCell _ _
  case c3 => unfold maxLen; omega
  case c4 => omega
  case c5 => exact Nat.le_refl _
  intro v' w1 hown hgrow hnil
  go_wp2
  go_ret
  refine ⟨v', rfl, ?_, ?_⟩
  · simpa using hown
  · exact (Below.refl _ _).grown hgrow (Nat.le_refl _) (by simp [Value.ownBlock])

/-- The same of a nil part: nil. -/
theorem join_nil (b : Nat) (w : World) (hb : w.cell? ⟨b, 0, none⟩ = some (.slice none 0 0)) :
    Calls Try.prog 23 #[.slice (some ⟨b, 0, none⟩) 1 1, .slice none 0 0] w fun e w' => e = .returned (.slice none 0 0) ∧ w' = w := by
  obtain ⟨i0, hi, hz0, hz1, hz2⟩ := info_parts info5
  have HI : Hid (Try.prog.info? 5 = some i0) := hi
  clear hi hz0 hz1 hz2
  go_enter Try.func23, Try.ntmps23
  go_wp2_with (at_builtin; refine wpList_append_own_none rfl _ _ 22 rfl w.heap.size 5 i0 1 Try.underlying22 HI.out _ _ _ rfl (World.ownsRow_nil _ _ _ _) rfl ?_)
  go_ret
  exact ⟨rfl, rfl⟩

/-- A part that is nil, or a row at its head: what Join makes of it. -/
theorem join_any (b : Nat) (ao : Option Addr) (n c : Nat) (zs : List Int) (w : World) (hb : w.cell? ⟨b, 0, none⟩ = some (.slice ao n c)) (hz : zs.length = n) (hn : n ≤ 1048576)
    (ha : (ao = none ∧ n = 0 ∧ c = 0) ∨ ∃ g, ao = some ⟨g, 0, none⟩ ∧ ∀ j u, (zs.map (Value.int .u8))[j]? = some u → w.cell? ((⟨g, 0, none⟩ : Addr).add j) = some u) :
    Calls Try.prog 23 #[.slice (some ⟨b, 0, none⟩) 1 1, .slice none 0 0] w fun e w' => Below w.heap.size w w' ∧
      ((e = .returned (.slice none 0 0) ∧ n = 0) ∨
       ∃ g cap, e = .returned (.slice (some ⟨g, 0, none⟩) n cap) ∧ w'.ownsRow w.heap.size 5 1 (.slice (some ⟨g, 0, none⟩) n cap) n (zs.map (Value.int .u8))) := by
  rcases ha with ⟨rfl, rfl, rfl⟩ | ⟨g, rfl, hc⟩
  · exact (join_nil b w hb).mono fun e w' ⟨he, hw⟩ => ⟨by rw [hw]; exact Below.refl _ _, .inl ⟨he, rfl⟩⟩
  · refine (join_one b g n c zs w hb hz hn hc).mono fun e w' ⟨v, he, hown, hbl⟩ => ⟨hbl, ?_⟩
    rcases hown.2 with ⟨hv, h0⟩ | ⟨g', cap, cur, hv, _⟩
    · exact .inl ⟨by rw [he, hv], h0⟩
    · exact .inr ⟨g', cap, by rw [he, hv], by rw [← hv]; exact hown⟩

/-- The one cell of the newest block. -/
theorem one_cell (w : World) (x : Value) (t : TypeId) : ∀ j u, [x][j]? = some u → (w.alloc (.cells #[x] t)).cell? ((⟨w.heap.size, 0, none⟩ : Addr).add j) = some u := by
  intro j u hj
  match j, hj with
  | 0, hj => simp at hj; subst hj; simp [Addr.add]
theorem one_cell2 (w : World) (o : Obj) (x : Value) (t : TypeId) : ∀ j u, [x][j]? = some u → ((w.alloc o).alloc (.cells #[x] t)).cell? ((⟨w.heap.size + 1, 0, none⟩ : Addr).add j) = some u := by
  have h := one_cell (w.alloc o) x t
  rwa [World.size_alloc] at h
/-- Behind the first append (onto the block that was the newest but one): what was owned ahead of both blocks is owned still; nothing old has turned. -/
theorem behind1 {w w1 w2 : World} {o1 o2 : Obj} (hbl : Below w.heap.size w w1) (hgrow : ((w1.alloc o1).alloc o2).grownBy w2 (some w1.heap.size)) : Below w.heap.size w w2 := by
  have hsz := hbl.size
  refine ((hbl.alloc hsz o1).alloc (by rw [World.size_alloc]; omega) o2).grown hgrow (by rw [World.size_alloc, World.size_alloc]; omega) ?_
  intro k hk
  simp at hk
  omega
theorem kept1 {w1 w2 : World} {o1 o2 : Obj} {B g n cap : Nat} {xs : List Value} (hown : w1.ownsRow B 5 1 (.slice (some ⟨g, 0, none⟩) n cap) n xs) (hgrow : ((w1.alloc o1).alloc o2).grownBy w2 (some w1.heap.size)) :
    w2.ownsRow B 5 1 (.slice (some ⟨g, 0, none⟩) n cap) n xs := by
  refine ((hown.alloc o1).alloc o2).kept hgrow (.inr ?_)
  have := (hown.lt g rfl).2
  simp [Value.ownBlock]
  omega
theorem size1 {w w1 w2 : World} {o1 o2 : Obj} {r : Option Nat} (hsz : w.heap.size ≤ w1.heap.size) (hgrow : ((w1.alloc o1).alloc o2).grownBy w2 r) : w.heap.size ≤ w2.heap.size := by
  have := hgrow.size
  rw [World.size_alloc, World.size_alloc] at this
  omega

/-- encodeElement where the content is shorter than 128 bytes: the identifier, the length, the content. -/
theorem enc_short (tag : Int) (b n : Nat) (ao : Option Addr) (c : Nat) (zs : List Int) (w : World) (t0 : 0 ≤ tag) (t1 : tag ≤ 30) (hb : w.cell? ⟨b, 0, none⟩ = some (.slice ao n c)) (hz : zs.length = n) (hn : n < 128)
    (ha : (ao = none ∧ n = 0 ∧ c = 0) ∨ ∃ g, ao = some ⟨g, 0, none⟩ ∧ ∀ j u, (zs.map (Value.int .u8))[j]? = some u → w.cell? ((⟨g, 0, none⟩ : Addr).add j) = some u) :
    Calls Try.prog 19 #[.int .i64 tag, .slice (some ⟨b, 0, none⟩) 1 1] w fun e w' => ∃ v id, e = .returned v ∧ w'.ownsRow w.heap.size 5 1 v (2 + n) ((id :: (n : Int) :: zs).map (Value.int .u8)) ∧ Below w.heap.size w w' ∧ 0 ≤ id ∧ id ≤ 255 ∧ (id = 5 ↔ tag = 5) := by
  obtain ⟨i0, hi, hz0, hz1, hz2⟩ := info_parts info5
  have HI : Hid (Try.prog.info? 5 = some i0 ∧ i0.zero = some (.int .u8 0) ∧ i0.size = 1 ∧ i0.bytes = 1) := ⟨hi, hz0, hz1, hz2⟩
  have HB : Hid (w.cell? ⟨b, 0, none⟩ = some (.slice ao n c)) := hb
  have HA : Hid ((ao = none ∧ n = 0 ∧ c = 0) ∨ ∃ g, ao = some ⟨g, 0, none⟩ ∧ ∀ j u, (zs.map (Value.int .u8))[j]? = some u → w.cell? ((⟨g, 0, none⟩ : Addr).add j) = some u) := ha
  have HZ : Hid (zs.length = n) := hz
  clear hi hz0 hz1 hz2 hz ha hb
  go_enter Try.func19, Try.ntmps19
  go_wp2_with fail
  refine (join_any b ao n c zs w HB.out HZ.out (by omega) HA.out).mono ?_
  rintro e w1 ⟨hbl, hh⟩
  have hsz := hbl.size
  have h16 : bits BinOp.or IntKind.u8 16 32 = 48 := by decide
  have h17 : bits BinOp.or IntKind.u8 17 32 = 49 := by decide
  clear HB HA
  rcases hh with ⟨rfl, h0⟩ | ⟨g, cap, rfl, hown⟩
  · subst h0
    rcases (show tag = 16 ∨ tag = 17 ∨ ((tag == 16) = false ∧ (tag == 17) = false) by simp; omega) with rfl | rfl | ⟨e16, e17⟩
    all_goals
      go_wp2_with (at_builtin; refine wpList_append_own _ rfl (.tmp 28) (.tmp 31) 22 rfl w.heap.size 5 i0 (.int .u8 0) 1 1 Try.underlying22 HI.out.1 HI.out.2.1 HI.out.2.2.1 HI.out.2.2.2 rfl (by decide) _ 1 _ rfl ((World.ownsRow_lit w1 _ 1 hsz (by decide) rfl).alloc _) ⟨w1.heap.size + 1, 0, none⟩ 1 1 [.int .u8 0] rfl rfl ?_ ?_ ?_ ?_ ?_ ?_)
      · exact one_cell2 w1 _ _ _
      · simp [Value.oneCell']
      · decide
      · decide
      · simp; omega
      intro v2 w2 hown2 hgrow2 _
      have hbl2 := behind1 hbl hgrow2
      clear hgrow2
      go_wp2_with (at_builtin; refine wpList_append_own_none rfl _ _ 22 rfl w.heap.size 5 i0 1 Try.underlying22 HI.out.1 _ _ _ rfl hown2 rfl ?_)
      go_ret
      obtain rfl : zs = [] := List.eq_nil_of_length_eq_zero HZ.out
      refine ⟨v2, _, rfl, hown2, hbl2, ?_, ?_, ?_⟩ <;> simp_all <;> omega
  · have hn' : (n : Int) < 128 := by omega
    have HN : Hid (n < 128) := hn
    clear hn
    have HO : Hid (w1.ownsRow w.heap.size 5 1 (.slice (some ⟨g, 0, none⟩) n cap) n (zs.map (Value.int .u8))) := hown
    clear hown
    rcases (show tag = 16 ∨ tag = 17 ∨ ((tag == 16) = false ∧ (tag == 17) = false) by simp; omega) with rfl | rfl | ⟨e16, e17⟩
    all_goals
      go_wp2_with (at_builtin; refine wpList_append_own _ rfl (.tmp 28) (.tmp 31) 22 rfl w.heap.size 5 i0 (.int .u8 0) 1 1 Try.underlying22 HI.out.1 HI.out.2.1 HI.out.2.2.1 HI.out.2.2.2 rfl (by decide) _ 1 _ rfl ((World.ownsRow_lit w1 _ 1 hsz (by decide) rfl).alloc _) ⟨w1.heap.size + 1, 0, none⟩ 1 1 [.int .u8 n] rfl rfl ?_ ?_ ?_ ?_ ?_ ?_)
      · exact one_cell2 w1 _ _ _
      · simp [Value.oneCell']
      · decide
      · decide
      · simp; omega
      intro v2 w2 hown2 hgrow2 _
      have hbl2 := behind1 hbl hgrow2
      have hk := kept1 HO.out hgrow2
      have hsz2 := size1 hsz hgrow2
      clear hgrow2 HO
      go_wp2_with (at_builtin; refine wpList_append_own _ rfl (.tmp 52) (.tmp 53) 22 rfl w.heap.size 5 i0 (.int .u8 0) 1 1 Try.underlying22 HI.out.1 HI.out.2.1 HI.out.2.2.1 HI.out.2.2.2 rfl (by decide) v2 2 _ rfl hown2 ⟨g, 0, none⟩ n cap (zs.map (Value.int .u8)) rfl ?_ ?_ ?_ ?_ ?_ ?_ ?_)
      · simp [HZ.out]
      · exact hk.cells rfl
      · exact ints_oneCell _ _
      · have := HN.out; unfold maxLen; omega
      · have := HN.out; omega
      · exact hsz2
      intro v3 w3 hown3 hgrow3 _
      have hbl3 := hbl2.grown hgrow3 hsz2 (fun k h => (hown2.lt k h).1)
      clear hgrow3
      go_wp2
      go_ret
      refine ⟨v3, _, rfl, hown3, hbl3, ?_, ?_, ?_⟩ <;> simp_all <;> omega
end Go.Proofs.Qxb6616213a.enc
