import Derived.Test.Qxb6616163aDoorLw
import Derived.Test.Qxb6616163aDoorTie
import Derived.Test.Qxb6616163aDoorCards
import Derived.ProofKit
import Derived.Lay
import Derived.Stop.LaidErr
import Derived.SevenTiedAt
namespace Go.Proofs.Qxb6616163aDoor.rd
open Go.ChangeShapes Go.WideShapes Go.ChangeAt Go.RowKit
open Go.ChangeMaps (open_string shut_string)

theorem own : ownKnob Tryd.prog.godebug = none := by kernel_rfl
theorem gS : Tryd.prog.globalNamed "io.ErrShortBuffer" = some 1 := by kernel_rfl
theorem gE : Tryd.prog.globalNamed "io.EOF" = some 0 := by kernel_rfl
theorem gU : Tryd.prog.globalNamed "io.ErrUnexpectedEOF" = some 2 := by kernel_rfl
theorem gST : (Tryd.prog.globals[1]?).map (·.type) = some 32 := by kernel_rfl
theorem gET : (Tryd.prog.globals[0]?).map (·.type) = some 32 := by kernel_rfl
theorem gUT : (Tryd.prog.globals[2]?).map (·.type) = some 32 := by kernel_rfl
theorem cells71 : Tryd.prog.cellsOf 71 = 1 := by kernel_rfl
theorem cells9 : Tryd.prog.cellsOf 9 = 1 := by kernel_rfl
theorem star : "*" ++ "errors.errorString" = "*errors.errorString" := by decide
theorem row50 (u : TypeId) (h : Tryd.prog.typeName? 3 u = some "*errors.errorString") : u = 50 :=
  typeName_ptr_named (nm := "errors.errorString") (by rw [star]; kernel_rfl) (by kernel_rfl) (by decide) u (by rw [star]; exact h)

/-- A block whose one cell is an interface value holds no string. -/
theorem not_block {W : World} {n : String} {g : Nat} {v : Value} {a : Addr} {s : ByteArray} (hg : Tryd.prog.globalNamed n = some g) (hv : W.var? Tryd.prog n = some #[.iface 50 v]) (hc : W.cell? a = some (.string s)) : a.block ≠ g := by
  intro e
  obtain ⟨b, o, sp⟩ := a
  subst e
  have hc' := World.var?_cell hg hv o
  cases sp with
  | some x =>
    unfold World.cell? at hc
    split at hc
    · simp at hc
    · cases hc
  | none =>
    rw [hc] at hc'
    match o with
    | 0 => simp at hc'
    | o + 1 => simp at hc'

theorem laid_cells {W : World} (h0 : laidMetH Tryd.prog Rows.fnReadCRLFCountsLeadingPairsRow.laid W) : ∃ ae au, 4 ≤ W.heap.size ∧ W.cell? ⟨0, 0, none⟩ = some (errV ae) ∧ W.cell? ⟨2, 0, none⟩ = some (errV au) := by
  rw [MakeChecks.laidMetH_plain _ _ _ (by kernel_rfl)] at h0
  have h : laidMet Tryd.prog [("io.ErrShortBuffer", Rows.laid_io_ErrShortBuffer), ("io.EOF", Rows.laid_io_EOF), ("io.ErrUnexpectedEOF", Rows.laid_io_ErrUnexpectedEOF)] W := h0
  obtain ⟨a1, s1, v1, c1, _, _⟩ := laid_sentinel h gS gST Tryd.underlying32 row50 Tryd.underlying50 Tryd.underlying71 rfl rfl Tryd.underlying9 cells71 cells9
  obtain ⟨a0, s0, v0, c0, _, _⟩ := laid_sentinel h.tail gE gET Tryd.underlying32 row50 Tryd.underlying50 Tryd.underlying71 rfl rfl Tryd.underlying9 cells71 cells9
  obtain ⟨a2, s2, v2, c2, _, _⟩ := laid_sentinel h.tail.tail gU gUT Tryd.underlying32 row50 Tryd.underlying50 Tryd.underlying71 rfl rfl Tryd.underlying9 cells71 cells9
  refine ⟨a0, a2, ?_, by simpa [errV] using World.var?_cell gE v0 0, by simpa [errV] using World.var?_cell gU v2 0⟩
  have n0 := not_block gE v0 c0
  have n1 := not_block gS v1 c0
  have n2 := not_block gU v2 c0
  have hlt : a0.block < W.heap.size := by
    rcases Nat.lt_or_ge a0.block W.heap.size with h' | h'
    · exact h'
    · simp [World.cell?, Array.getElem?_eq_none h'] at c0
  omega

theorem law_any (s : ByteArray) (W : World) (h : ∃ ae au, 4 ≤ W.heap.size ∧ W.cell? ⟨0, 0, none⟩ = some (errV ae) ∧ W.cell? ⟨2, 0, none⟩ = some (errV au)) :
    Calls Tryd.prog 3 #[.string s] W fun e w' => e = .returned (.bool true) ∧ Below W.heap.size W w' := by
  obtain ⟨ae, au, h4, he, hu⟩ := h
  by_cases hs : s.size ≤ 65536
  · exact law s ae au W hs h4 he hu
  · exact law_long s W hs

set_option maxRecDepth 100000 in
theorem lifted (os : Os) (started : os.Started) (H : Type) (enc : TypeId × Value → H) :
    ReturnsInHanded {} Tryd.checked os 3 .any (fun w args => (Rows.fnReadCRLFCountsLeadingPairsSpec.pre enc Tryd.prog Tryd.f3 [] false w args ∧ laidMetH Tryd.prog Rows.fnReadCRLFCountsLeadingPairsRow.laid w) ∧ sizedMet enc Tryd.prog Tryd.f3 (OpenSpec.ofChange Rows.fnReadCRLFCountsLeadingPairsSpec) false w args)
      (Rows.fnReadCRLFCountsLeadingPairsSpec.post enc Tryd.prog Tryd.f3 false true false false) := by
  refine returnsInHanded_of_change_and (C := Tryd.checked) (X := fun w _ => laidMetH Tryd.prog Rows.fnReadCRLFCountsLeadingPairsRow.laid w) (fun _ _ _ hh h => h.of_heap hh) own started (by kernel_rfl) Tryd.func3
    (ChangeSpec.witness_shaped (enc := enc) (C := Tryd.checked) (os := os) (X := fun w _ => laidMetH Tryd.prog Rows.fnReadCRLFCountsLeadingPairsRow.laid w) false (World.laidAll Tryd.prog os Rows.fnReadCRLFCountsLeadingPairsRow.laid) #[.string ⟨#[]⟩] 8 (World.laidAll_os _ _ _)
      (World.shaped_of_ZipB (by kernel_rfl) (by kernel_rfl)) (by kernel_rfl) (by kernel_rfl) (by kernel_rfl)
      (by rw [MakeChecks.laidMetH_plain _ _ _ (by kernel_rfl)]; exact laidMet_laidAll _ (by kernel_rfl) (by kernel_rfl))) ?_
  intro W base args ds gs before hval0 hW _ _ hL _
  have hval : ∀ (j : Nat) t v, Tryd.f3.params[j]? = some t → args[j]? = some v → Value.okWide Tryd.prog W .any base t v := hval0
  have hW' := hW
  obtain ⟨p, q, hA0, hV, rfl, _, _⟩ := hW
  have hA : DataW.TrodAll enc Tryd.prog W 0 (fun _ => true) true Tryd.f3.params.toList args.toList ds p := hA0
  rw [Tryd.params3] at hA hval
  obtain ⟨v0, d0, rfl, rfl, h0⟩ := trodAll_one hA
  obtain ⟨rfl, rfl⟩ := trodVars_none hV
  obtain ⟨s, rfl, rfl, rfl, hs⟩ := open_string Tryd.underlying9 (hval 0 9 v0 rfl rfl) h0
  simp only [List.append_nil] at hW'
  refine (law_any s W (laid_cells hL)).mono fun e W' ⟨he, hb⟩ => ?_
  subst he
  exact ⟨_, rfl, _, _, _, [], [], [], hW', trodAll_mk1 (shut_bool Tryd.underlying4 _), trodAll_mk1 (shut_string Tryd.underlying9 hs), rfl, hb.frame _, fun h => by cases h⟩
theorem holds : Rows.FnReadCRLFCountsLeadingPairsSaid :=
  OpenClaim.holds_of_wide 3 Tryd.f3 rfl rfl rfl rfl rfl rfl rfl ⟨rfl, rfl, rfl, rfl, rfl⟩ rfl rfl rfl rfl rfl (by kernel_rfl) Tryd.func3 (by kernel_rfl)
    (of_decide_eq_true (by kernel_rfl)) (by unfold Func.isWrapper; first | (rw [if_pos (by decide +kernel)]; kernel_rfl) | (rw [if_neg (by decide +kernel)]; exact ⟨rfl, rfl⟩))
    (fun os started H enc _ => lifted os started H enc)
end Go.Proofs.Qxb6616163aDoor.rd
namespace Go.Proofs.Qxb6616163aDoor
theorem card_holds : Rows.FnReadCRLFCountsLeadingPairsCardSaid :=
  Claim7.holds_tied_plain_at .later [] [.sentinel, .sentinel, .sentinel] true (true, "0e93900925b2bdfa1c7eee811299aad01c30c52fa62e49dbf2de5fb89708aec4") true rd.holds (fun _ h => by cases h) (by kernel_rfl) (fun _ h => by cases h) fnReadCRLFCountsLeadingPairs_row_tie rfl ⟨rfl, rfl⟩ (by kernel_rfl) rfl
    (fun f fn hf hfn => by
      obtain rfl : f = 3 := Option.some.inj ((show Tryd.prog.funcNamed "example.com/countersign/countersign/zzlaws_root_b1.FnReadCRLFCountsLeadingPairs" = some 3 by kernel_rfl).symm.trans hf) |>.symm
      obtain rfl : fn = Tryd.f3 := (Option.some.inj (Tryd.func3.symm.trans hfn)).symm
      exact ⟨by kernel_rfl, fun j t ht => by
        rw [Tryd.params3] at ht
        have hm : t ∈ [9] := by simpa using Array.mem_of_getElem? ht
        have hall : ([9].all fun u => !Tryd.prog.wantsStandIn u) = true := by kernel_rfl
        exact (show Tryd.prog.wantsStandIn t = false by simpa using List.all_eq_true.1 hall t hm)⟩)
    (by kernel_rfl)
end Go.Proofs.Qxb6616163aDoor
