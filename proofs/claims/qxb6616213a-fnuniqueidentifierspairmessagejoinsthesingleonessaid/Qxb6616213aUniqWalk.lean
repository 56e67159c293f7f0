import Derived.Test.Qxb6616213aUniq
namespace Go.Proofs.Qxb6616213a.uniq
open Go.ChangeShapes Go.WideShapes Go.ChangeAt Go.RowKit

theorem bytes_yes (ver : Int) (a1 a2 : Option Addr) (n1 c1 n2 c2 : Nat) (w : World) (h : (n1 : Int) + (n2 : Int) ≤ 1048576) :
    Calls Try.prog 10 #[.int .i64 ver, .slice a1 n1 c1, .slice a2 n2 c2] w fun e w' => e = .returned (.bool true) ∧ w = w' := by
  have h1 : (n1 : Int) ≤ 1048576 := by omega
  have h2 : (n2 : Int) ≤ 1048576 := by omega
  go_enter Try.func10, Try.ntmps10
  go_wp2
  go_ret
  exact ⟨rfl, rfl⟩
theorem bytes_no (ver : Int) (a1 a2 : Option Addr) (n1 c1 n2 c2 : Nat) (w : World) (h : ¬ (n1 : Int) + (n2 : Int) ≤ 1048576) (m1 : n1 ≤ maxLen) (m2 : n2 ≤ maxLen) :
    Calls Try.prog 10 #[.int .i64 ver, .slice a1 n1 c1, .slice a2 n2 c2] w fun e w' => e = .returned (.bool false) ∧ w = w' := by
  unfold maxLen at m1 m2
  have g1 : (n1 : Int) ≤ 9223372036854775807 := by omega
  have g2 : (n2 : Int) ≤ 9223372036854775807 := by omega
  clear m1 m2
  by_cases h1 : (n1 : Int) ≤ 1048576
  · by_cases h2 : (n2 : Int) ≤ 1048576
    · go_enter Try.func10, Try.ntmps10
      go_wp2
      go_ret
      exact ⟨rfl, rfl⟩
    · go_enter Try.func10, Try.ntmps10
      go_wp2
      go_ret
      exact ⟨rfl, rfl⟩
  · go_enter Try.func10, Try.ntmps10
    go_wp2
    go_ret
    exact ⟨rfl, rfl⟩
set_option maxRecDepth 100000 in
theorem law_early (ver : Int) (a1 a2 : Option Addr) (n1 c1 n2 c2 : Nat) (w : World) (m1 : n1 ≤ maxLen) (m2 : n2 ≤ maxLen) (h : ¬ ((n1 : Int) ≤ 524288 ∧ (n2 : Int) ≤ 524288)) :
    Calls Try.prog 4 #[.int .i64 ver, .slice a1 n1 c1, .slice a2 n2 c2] w fun e w' => e = .returned (.bool true) ∧ w = w' := by
  by_cases hs : (n1 : Int) + (n2 : Int) ≤ 1048576
  · by_cases h1 : (n1 : Int) ≤ 524288
    · have h2 : ¬ (n2 : Int) ≤ 524288 := by omega
      have HS := hid hs
      clear h m1 m2 hs
      go_enter Try.func4, Try.ntmps4
      go_wp2_with (go_at_call 10; refine (bytes_yes ver a1 a2 n1 c1 n2 c2 _ HS.out).mono ?_; rintro e w' ⟨rfl, rfl⟩)
      go_ret
      exact ⟨rfl, rfl⟩
    · have HS := hid hs
      clear h m1 m2 hs
      go_enter Try.func4, Try.ntmps4
      go_wp2_with (go_at_call 10; refine (bytes_yes ver a1 a2 n1 c1 n2 c2 _ HS.out).mono ?_; rintro e w' ⟨rfl, rfl⟩)
      go_ret
      exact ⟨rfl, rfl⟩
  · have HS := hid hs
    have HM := hid (And.intro m1 m2)
    clear h m1 m2 hs
    go_enter Try.func4, Try.ntmps4
    go_wp2_with (go_at_call 10; refine (bytes_no ver a1 a2 n1 c1 n2 c2 _ HS.out HM.out.1 HM.out.2).mono ?_; rintro e w' ⟨rfl, rfl⟩)
    go_ret
    exact ⟨rfl, rfl⟩

/-- A certificate as the law makes it: the version and the two identifiers; all else zero. -/
def cert (ver : Int) (pi ps : Option Addr) : Obj :=
  Obj.cells #[Value.slice none 0 0, Value.slice none 0 0, Value.int IntKind.i64 ver, Value.pointer none,
                    Value.slice none 0 0, Value.string { data := #[] }, Value.slice none 0 0, Value.slice none 0 0,
                    Value.slice none 0 0, Value.int IntKind.u64 0, Value.int IntKind.i64 0, Value.pointer none,
                    Value.int IntKind.u64 0, Value.int IntKind.i64 0, Value.pointer none, Value.int IntKind.i64 0,
                    Value.int IntKind.i64 0, Value.slice none 0 0, Value.slice none 0 0, Value.slice none 0 0,
                    Value.string { data := #[] }, Value.slice none 0 0, Value.slice none 0 0, Value.int IntKind.i64 0,
                    Value.pointer none, Value.pointer none, Value.pointer none, Value.pointer pi, Value.pointer ps,
                    Value.slice none 0 0, Value.string { data := #[] }, Value.slice none 0 0, Value.slice none 0 0,
                    Value.int IntKind.i64 0] 49
/-- The world with the two identifiers and the four certificates. -/
def W6 (w : World) (ver : Int) (a1 a2 : Option Addr) (n1 c1 n2 c2 : Nat) : World :=
  ((((((w.alloc (Obj.cells #[Value.slice a1 n1 c1, Value.int IntKind.i64 (8 * (n1 : Int))] 29)).alloc (Obj.cells #[Value.slice a2 n2 c2, Value.int IntKind.i64 (8 * (n2 : Int))] 29)).alloc
    (cert ver none none)).alloc (cert ver (some ⟨w.heap.size, 0, none⟩) none)).alloc (cert ver none (some ⟨w.heap.size + 1, 0, none⟩))).alloc (cert ver (some ⟨w.heap.size, 0, none⟩) (some ⟨w.heap.size + 1, 0, none⟩)))
/-- What the walk wants to know of a certificate. -/
structure IsCert (W : World) (b : Nat) (ver : Int) (pi ps : Option Addr) : Prop where
  lt : b < W.heap.size
  v : W.cell? ⟨b, 2, none⟩ = some (.int .i64 ver)
  i : W.cell? ⟨b, 27, none⟩ = some (.pointer pi)
  s : W.cell? ⟨b, 28, none⟩ = some (.pointer ps)
theorem IsCert.later {W W' : World} {b : Nat} {ver : Int} {pi ps : Option Addr} (h : IsCert W b ver pi ps) (hb : Below W.heap.size W W') : IsCert W' b ver pi ps :=
  ⟨Nat.lt_of_lt_of_le h.lt hb.size, by rw [hb.cell (p := ⟨b, 2, none⟩) h.lt, h.v], by rw [hb.cell (p := ⟨b, 27, none⟩) h.lt, h.i], by rw [hb.cell (p := ⟨b, 28, none⟩) h.lt, h.s]⟩
theorem isCert_new (w : World) (ver : Int) (pi ps : Option Addr) (b : Nat) (hb : b = w.heap.size) : IsCert (w.alloc (cert ver pi ps)) b ver pi ps := by
  subst hb
  exact ⟨by simp, by simp [cert], by simp [cert], by simp [cert]⟩
theorem IsCert.alloc {W : World} {b : Nat} {ver : Int} {pi ps : Option Addr} (h : IsCert W b ver pi ps) (o : Obj) : IsCert (W.alloc o) b ver pi ps :=
  h.later ((Below.refl _ _).alloc (Nat.le_refl _) o)
theorem start (w : World) (ver : Int) (a1 a2 : Option Addr) (n1 c1 n2 c2 : Nat) : ∃ W, W = W6 w ver a1 a2 n1 c1 n2 c2 ∧ Below w.heap.size w W ∧
    IsCert W (w.heap.size + 1 + 1) ver none none ∧ IsCert W (w.heap.size + 1 + 1 + 1) ver (some ⟨w.heap.size, 0, none⟩) none ∧ IsCert W (w.heap.size + 1 + 1 + 1 + 1) ver none (some ⟨w.heap.size + 1, 0, none⟩) ∧
    IsCert W (w.heap.size + 1 + 1 + 1 + 1 + 1) ver (some ⟨w.heap.size, 0, none⟩) (some ⟨w.heap.size + 1, 0, none⟩) := by
  refine ⟨_, rfl, ?_, ?_, ?_, ?_, ?_⟩
  · unfold W6
    refine ((((((Below.refl _ _).alloc ?_ _).alloc ?_ _).alloc ?_ _).alloc ?_ _).alloc ?_ _).alloc ?_ _ <;> simp <;> omega
  · exact (((isCert_new _ _ _ _ _ (by simp)).alloc _).alloc _).alloc _
  · exact ((isCert_new _ _ _ _ _ (by simp)).alloc _).alloc _
  · exact (isCert_new _ _ _ _ _ (by simp)).alloc _
  · exact isCert_new _ _ _ _ _ (by simp)

set_option maxRecDepth 100000 in
theorem law_ver (ver : Int) (a1 a2 : Option Addr) (n1 c1 n2 c2 : Nat) (w : World) (h1 : (n1 : Int) ≤ 524288) (h2 : (n2 : Int) ≤ 524288) (hv : (ver != 1) = true) :
    Calls Try.prog 4 #[.int .i64 ver, .slice a1 n1 c1, .slice a2 n2 c2] w fun e w' => e = .returned (.bool true) ∧ Below w.heap.size w w' := by
  have HS := hid (show (n1 : Int) + (n2 : Int) ≤ 1048576 by omega)
  go_enter Try.func4, Try.ntmps4
  go_wp2_with (go_at_call 10; refine (bytes_yes ver a1 a2 n1 c1 n2 c2 _ HS.out).mono ?_; rintro e w' ⟨rfl, rfl⟩)
  obtain ⟨W, hW, hbw, k0, k1, k2, k3⟩ := start w ver a1 a2 n1 c1 n2 c2
  show Calls Try.prog 11 #[.pointer (some ⟨w.heap.size + 1 + 1, 0, none⟩)] (W6 w ver a1 a2 n1 c1 n2 c2) _
  rw [← hW]
  have HW := hid (And.intro hbw (And.intro k0 (And.intro k1 (And.intro k2 k3))))
  clear hW hbw k0 k1 k2 k3
  refine (chk_none (w.heap.size + 1 + 1) W HW.out.2.1.i HW.out.2.1.s).mono ?_
  rintro e w' ⟨rfl, rfl⟩
  go_wp2_with fail
  refine (zchk_ver (w.heap.size + 1 + 1 + 1) (some ⟨w.heap.size, 0, none⟩) none ver W HW.out.2.2.1.i HW.out.2.2.1.s HW.out.2.2.1.v rfl hv).mono ?_
  rintro e w2 ⟨rfl, hb2⟩
  have H2 := hid hb2
  clear hb2
  go_wp2_with fail
  have k2 := HW.out.2.2.2.1.later H2.out
  refine (zchk_ver (w.heap.size + 1 + 1 + 1 + 1) none (some ⟨w.heap.size + 1, 0, none⟩) ver w2 k2.i k2.s k2.v rfl hv).mono ?_
  clear k2
  rintro e w3 ⟨rfl, hb3⟩
  have H3 := hid hb3
  clear hb3
  go_wp2_with fail
  have k3 := (HW.out.2.2.2.2.later H2.out).later H3.out
  refine (zchk_ver (w.heap.size + 1 + 1 + 1 + 1 + 1) (some ⟨w.heap.size, 0, none⟩) (some ⟨w.heap.size + 1, 0, none⟩) ver w3 k3.i k3.s k3.v rfl hv).mono ?_
  clear k3
  rintro e w4 ⟨rfl, hb4⟩
  have H4 := hid hb4
  clear hb4
  have hneq := fun w => run_neq_slice_nil_any (P := Try.prog) w 50 9 none 0 0 0 0 Try.underlying50
  have heq := fun w => Lib.run_eql_slice_nil (P := Try.prog) w 50 9 none 0 0 0 0 Try.underlying50
  go_wp2
  go_ret
  have b2 := HW.out.1.trans (H2.out.mono HW.out.1.size)
  have b3 := b2.trans (H3.out.mono b2.size)
  exact ⟨rfl, b3.trans (H4.out.mono b3.size)⟩
set_option maxRecDepth 100000 in
set_option maxHeartbeats 1000000 in
theorem law_one (ver : Int) (a1 a2 : Option Addr) (n1 c1 n2 c2 : Nat) (w : World) (h1 : (n1 : Int) ≤ 524288) (h2 : (n2 : Int) ≤ 524288) (hv : (ver != 1) = false) :
    Calls Try.prog 4 #[.int .i64 ver, .slice a1 n1 c1, .slice a2 n2 c2] w fun e w' => e = .returned (.bool true) ∧ Below w.heap.size w w' := by
  have HS := hid (show (n1 : Int) + (n2 : Int) ≤ 1048576 by omega)
  go_enter Try.func4, Try.ntmps4
  go_wp2_with (go_at_call 10; refine (bytes_yes ver a1 a2 n1 c1 n2 c2 _ HS.out).mono ?_; rintro e w' ⟨rfl, rfl⟩)
  obtain ⟨W, hW, hbw, k0, k1, k2, k3⟩ := start w ver a1 a2 n1 c1 n2 c2
  show Calls Try.prog 11 #[.pointer (some ⟨w.heap.size + 1 + 1, 0, none⟩)] (W6 w ver a1 a2 n1 c1 n2 c2) _
  rw [← hW]
  have HW := hid (And.intro hbw (And.intro k0 (And.intro k1 (And.intro k2 k3))))
  clear hW hbw k0 k1 k2 k3
  refine (chk_none (w.heap.size + 1 + 1) W HW.out.2.1.i HW.out.2.1.s).mono ?_
  rintro e w' ⟨rfl, rfl⟩
  go_wp2_with fail
  refine (zchk_one (w.heap.size + 1 + 1 + 1) (some ⟨w.heap.size, 0, none⟩) none ver W HW.out.2.2.1.i HW.out.2.2.1.s HW.out.2.2.1.v rfl hv).mono ?_
  rintro e w2 ⟨g2, rfl, hc2, hl2, hb2⟩
  have H2 := hid (And.intro hc2 (And.intro hl2 hb2))
  clear hc2 hl2 hb2
  go_wp2_with fail
  have k2 := HW.out.2.2.2.1.later H2.out.2.2
  refine (zchk_one (w.heap.size + 1 + 1 + 1 + 1) none (some ⟨w.heap.size + 1, 0, none⟩) ver w2 k2.i k2.s k2.v rfl hv).mono ?_
  clear k2
  rintro e w3 ⟨g3, rfl, hc3, hl3, hb3⟩
  have H3 := hid (And.intro hc3 (And.intro hl3 hb3))
  clear hc3 hl3 hb3
  go_wp2_with fail
  have k3 := (HW.out.2.2.2.2.later H2.out.2.2).later H3.out.2.2
  refine (zchk_one (w.heap.size + 1 + 1 + 1 + 1 + 1) (some ⟨w.heap.size, 0, none⟩) (some ⟨w.heap.size + 1, 0, none⟩) ver w3 k3.i k3.s k3.v rfl hv).mono ?_
  clear k3
  rintro e w4 ⟨g4, rfl, hc4, hl4, hb4⟩
  have H4 := hid (And.intro hl4 hb4)
  have d4 : w4.cell? ⟨g4, 0, none⟩ = some (.string mB) := hc4
  have d3 : w4.cell? ⟨g3, 0, none⟩ = some (.string mS) := by rw [hb4.cell (p := ⟨g3, 0, none⟩) H3.out.2.1]; exact H3.out.1
  have d2 : w4.cell? ⟨g2, 0, none⟩ = some (.string mI) := by rw [hb4.cell (p := ⟨g2, 0, none⟩) (Nat.lt_of_lt_of_le H2.out.2.1 H3.out.2.2.size), H3.out.2.2.cell (p := ⟨g2, 0, none⟩) H2.out.2.1]; exact H2.out.1
  clear hc4 hl4 hb4
  have hneq := fun w => run_neq_slice_nil_any (P := Try.prog) w 50 9 none 0 0 0 0 Try.underlying50
  have hsz : mI.size = 80 := mI_size
  go_wp2_with fail
  refine (index_any mI sI w4 (by rw [mI_size]; decide) (by decide) 31 f1).mono ?_
  rintro e w' ⟨rfl, rfl⟩
  go_wp2_with fail
  refine (index_any mI sS w4 (by rw [mI_size]; decide) (by decide) (-1) f2).mono ?_
  rintro e w' ⟨rfl, rfl⟩
  go_wp2_with fail
  refine (index_any (mI.extract 45 80) sI w4 (by decide +kernel) (by decide) (-1) f3).mono ?_
  rintro e w' ⟨rfl, rfl⟩
  have e4 := f4
  have e5 := f5
  go_wp2
  go_ret
  have b2 := HW.out.1.trans (H2.out.2.2.mono HW.out.1.size)
  have b3 := b2.trans (H3.out.2.2.mono b2.size)
  exact ⟨rfl, b3.trans (H4.out.2.mono b3.size)⟩
end Go.Proofs.Qxb6616213a.uniq
