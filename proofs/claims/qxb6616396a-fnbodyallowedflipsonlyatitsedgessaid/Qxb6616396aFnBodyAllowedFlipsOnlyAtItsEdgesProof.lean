/-
  THE PROOF OF A GIVEN STATEMENT (the frame by the kit's program, the walk by hand).
-/
import Derived.Test.Qxb6616396aRows
import Derived.WalkKit
import Derived.ProofKit
import Derived.OpenShut
import Derived.ShutString
import Derived.Handy
namespace Go.Proofs.Qxb6616396a.fnBodyAllowedFlipsOnlyAtItsEdges
open Go.ChangeShapes Go.WideShapes Go.ChangeAt Go.RowKit
open Go.ChangeMaps (open_string shut_string)
set_option linter.unusedVariables false      -- a walk need not use every 'w<i>' (that an integer argument fits its kind)

theorem own : ownKnob Try.prog.godebug = none := by kernel_rfl

/-! ### STEP 1: THE WALK: the Go text returns true. 'Grown w w'': the world has at most new blocks (Derived/RowKit3.lean). Part the cases AHEAD of 'go_enter' where a test parts the walk; take each callee by a contract of your own. -/
set_option maxHeartbeats 1000000 in
theorem walk (a0 : Int) (w0 : (Lit.int .i64 a0).wf = true) (w : World) :
    Calls Try.prog 3 #[.int .i64 a0] w fun e w' => e = .returned (.bool true) ∧ Grown w w' := by
  obtain ⟨l0, u0⟩ := bounds_i64 w0
  by_cases c0 : 9223372036854775807 ≤ a0
  · go_enter Try.func3, Try.ntmps3
    go_wp2
    go_ret
    exact ⟨rfl, Grown.refl _⟩
  have hw : a0 + 1 ≤ 9223372036854775807 := by omega
  have cs : (a0 < 199) ∨ (199 ≤ a0 ∧ a0 ≤ 199) ∨ (200 ≤ a0 ∧ a0 < 203) ∨ (203 ≤ a0 ∧ a0 ≤ 203) ∨ (204 ≤ a0 ∧ a0 ≤ 204) ∨ (205 ≤ a0 ∧ a0 < 303) ∨ (303 ≤ a0 ∧ a0 ≤ 303) ∨ (304 ≤ a0 ∧ a0 ≤ 304) ∨ (305 ≤ a0) := by omega
  rcases cs with k | ⟨k, k'⟩ | ⟨k, k'⟩ | ⟨k, k'⟩ | ⟨k, k'⟩ | ⟨k, k'⟩ | ⟨k, k'⟩ | ⟨k, k'⟩ | k
  all_goals
    first | have e1 : (a0 == 199) = false := beq_eq_false_iff_ne.2 (by omega) | have e1 : (a0 == 199) = true := beq_iff_eq.2 (by omega)
    first | have e2 : (a0 == 203) = false := beq_eq_false_iff_ne.2 (by omega) | have e2 : (a0 == 203) = true := beq_iff_eq.2 (by omega)
    first | have e3 : (a0 == 204) = false := beq_eq_false_iff_ne.2 (by omega) | have e3 : (a0 == 204) = true := beq_iff_eq.2 (by omega)
    first | have e4 : (a0 == 303) = false := beq_eq_false_iff_ne.2 (by omega) | have e4 : (a0 == 303) = true := beq_iff_eq.2 (by omega)
    first | have e5 : (a0 == 304) = false := beq_eq_false_iff_ne.2 (by omega) | have e5 : (a0 == 304) = true := beq_iff_eq.2 (by omega)
    first | have e6 : (a0 != 204) = true := bne_iff_ne.2 (by omega) | have e6 : (a0 != 204) = false := bne_eq_false_iff_eq.2 (by omega)
    first | have e7 : (a0 != 304) = true := bne_iff_ne.2 (by omega) | have e7 : (a0 != 304) = false := bne_eq_false_iff_eq.2 (by omega)
    first | have e8 : (a0 + 1 != 204) = true := bne_iff_ne.2 (by omega) | have e8 : (a0 + 1 != 204) = false := bne_eq_false_iff_eq.2 (by omega)
    first | have e9 : (a0 + 1 != 304) = true := bne_iff_ne.2 (by omega) | have e9 : (a0 + 1 != 304) = false := bne_eq_false_iff_eq.2 (by omega)
    go_enter Try.func3, Try.ntmps3
    go_wp2
    go_ret
    exact ⟨rfl, Grown.refl _⟩

/-! ### THE ROW's STEP: WRITTEN OUT: LEAVE IT -/
set_option maxRecDepth 100000 in
theorem lifted (os : Os) (started : os.Started) (H : Type) (enc : TypeId × Value → H) :
    ReturnsInHanded {} Try.checked os 3 .any (Rows.fnBodyAllowedFlipsOnlyAtItsEdgesSpec.pre6 enc Try.prog Try.f3 Rows.fnBodyAllowedFlipsOnlyAtItsEdgesRow.domain false) (Rows.fnBodyAllowedFlipsOnlyAtItsEdgesSpec.post enc Try.prog Try.f3 false true false false) := by
  refine returnsInHanded_of_change (C := Try.checked) own started (by kernel_rfl) Try.func3
    (ChangeSpec.witness6 (enc := enc) (C := Try.checked) false ⟨#[], #[.int .i64 0], []⟩ 8 (by kernel_rfl) (by kernel_rfl) (by kernel_rfl) (by kernel_rfl)) ?_
  intro W base args ds gs before hval0 hW hcnd _
  have hval : ∀ (j : Nat) t v, Try.f3.params[j]? = some t → args[j]? = some v → Value.okWide Try.prog W .any base t v := hval0
  have hW' := hW
  obtain ⟨p, q, hA0, hV, rfl, hfz, hnd⟩ := hW
  have hA : DataW.TrodAll enc Try.prog W 0 (fun _ => true) true Try.f3.params.toList args.toList ds p := hA0
  rw [Try.params3] at hA hval
  obtain ⟨v0, vs0, d0, ds0, p0, q0, hargs, rfl, rfl, h0, r0⟩ := trodAll_cons hA
  obtain ⟨rfl, rfl, rfl⟩ := trodAll_nil r0
  obtain rfl : args = #[v0] := by cases args; simp_all
  obtain ⟨rfl, rfl⟩ := trodVars_none hV
  obtain ⟨a0, rfl, rfl, rfl, w0⟩ := open_int Try.underlying3 (hval 0 3 v0 rfl rfl) h0
  clear hA0 hval0
  simp only [List.append_nil] at hW'
  refine (walk a0 w0 W).mono fun e W' ⟨he, hg⟩ => ?_
  subst he
  exact ⟨_, rfl, post_of_same (pa := []) (pv := []) hW' (fun _ _ _ => (trodAll_cons_mk (shut_bool Try.underlying4 _) trodAll_mk0)) (fun sp _ => (trodAll_cons_mk (shut_int Try.underlying3 w0) trodAll_mk0)) (fun _ _ => rfl) rfl
    (hg.frame _) hg.2.1 (ok_one (by kernel_rfl) rfl (okWide_bool_mk Try.underlying4 _))⟩

theorem over : Rows.fnBodyAllowedFlipsOnlyAtItsEdgesRow.holds Try.pinned (OpenSpec.ofChange Rows.fnBodyAllowedFlipsOnlyAtItsEdgesSpec) :=
  OpenClaim.holds_of_wide 3 Try.f3 rfl rfl rfl rfl rfl rfl rfl ⟨rfl, rfl, rfl, rfl, rfl⟩ rfl rfl rfl rfl rfl (by kernel_rfl) Try.func3 (by kernel_rfl)
    (of_decide_eq_true (by kernel_rfl)) (by unfold Func.isWrapper; first | (rw [if_pos (by decide +kernel)]; kernel_rfl) | (rw [if_neg (by decide +kernel)]; exact ⟨rfl, rfl⟩))
    (fun os started H enc _ => lifted os started H enc)

/-- ████ THE STATEMENT ████ -/
theorem proved : Rows.FnBodyAllowedFlipsOnlyAtItsEdgesSaid :=
  over
end Go.Proofs.Qxb6616396a.fnBodyAllowedFlipsOnlyAtItsEdges
