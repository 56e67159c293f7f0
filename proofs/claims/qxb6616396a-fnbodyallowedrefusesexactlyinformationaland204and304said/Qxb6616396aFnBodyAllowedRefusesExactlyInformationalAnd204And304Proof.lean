/-
  THE PROOF OF A GIVEN STATEMENT (the frame by the kit's program, the walk by hand).
-/
import Derived.Test.Qxb6616396aRows
import Derived.WalkKit
import Derived.ProofKit
import Derived.OpenShut
import Derived.ShutString
import Derived.Handy
namespace Go.Proofs.Qxb6616396a.fnBodyAllowedRefusesExactlyInformationalAnd204And304
open Go.ChangeShapes Go.WideShapes Go.ChangeAt Go.RowKit
open Go.ChangeMaps (open_string shut_string)
set_option linter.unusedVariables false      -- a walk need not use every 'w<i>' (that an integer argument fits its kind)

theorem own : ownKnob Try.prog.godebug = none := by kernel_rfl

/-! ### THE PLAIN LAW: no Go in sight: how many of the k statuses from lo on are refused a body -/
def cf (lo k : Int) : Int :=
  (if lo < 200 then (if lo + k ≤ 200 then k else 200 - lo) else 0) + (if lo ≤ 204 ∧ 204 < lo + k then 1 else 0) + (if lo ≤ 304 ∧ 304 < lo + k then 1 else 0)
theorem cf_zero (lo : Int) : cf lo 0 = 0 := by
  unfold cf; repeat' split
  all_goals omega
theorem cf_bound (lo k : Int) (h : 0 ≤ k) : 0 ≤ cf lo k ∧ cf lo k ≤ k + 2 := by
  unfold cf; repeat' split
  all_goals omega
theorem cf_yes (lo k : Int) (h : 0 ≤ k) (q : lo + k < 200 ∨ lo + k = 204 ∨ lo + k = 304) : cf lo (k + 1) = cf lo k + 1 := by
  unfold cf; repeat' split
  all_goals omega
theorem cf_no (lo k : Int) (h : 0 ≤ k) (q : ¬ (lo + k < 200 ∨ lo + k = 204 ∨ lo + k = 304)) : cf lo (k + 1) = cf lo k := by
  unfold cf; repeat' split
  all_goals omega

/-! ### STEP 1: THE WALK: the Go text returns true. 'Grown w w'': the world has at most new blocks (Derived/RowKit3.lean). Part the cases AHEAD of 'go_enter' where a test parts the walk; take each callee by a contract of your own. -/
set_option maxHeartbeats 1000000 in
theorem walk (a0 : Int) (a1 : Int) (w0 : (Lit.int .i64 a0).wf = true) (w1 : (Lit.int .i64 a1).wf = true) (w : World) :
    Calls Try.prog 4 #[.int .i64 a0, .int .i64 a1] w fun e w' => e = .returned (.bool true) ∧ Grown w w' := by
  obtain ⟨l0, u0⟩ := bounds_i64 w0
  obtain ⟨l1, u1⟩ := bounds_i64 w1
  by_cases c0 : a1 < 0
  · go_enter Try.func4, Try.ntmps4
    go_wp2
    go_ret
    exact ⟨rfl, Grown.refl _⟩
  by_cases c1 : 4096 < a1
  · go_enter Try.func4, Try.ntmps4
    go_wp2
    go_ret
    exact ⟨rfl, Grown.refl _⟩
  by_cases c2 : 9223372036854775807 - a1 < a0
  · go_enter Try.func4, Try.ntmps4
    go_wp2
    go_ret
    exact ⟨rfl, Grown.refl _⟩
  have hs : a0 + a1 ≤ 9223372036854775807 := by omega
  have hn : 0 ≤ a1 := by omega
  have hm : a1 ≤ 4096 := by omega
  go_enter Try.func4, Try.ntmps4
  go_wp2
  go_loop [5, 6] (fun r i => ∃ k : Int, 0 ≤ k ∧ k ≤ a1 ∧ i = .int .i64 k ∧ r = .int .i64 (cf a0 k)) (fun _ i => (a1 - intOf i).toNat)
  case atStart => exact ⟨0, by omega, by omega, rfl, by rw [cf_zero]⟩
  case round =>
    obtain ⟨k, k0, k1, rfl, rfl⟩ := hrel
    have cb := cf_bound a0 k k0
    by_cases hlt : k < a1
    · have hk : a0 + k ≤ 9223372036854775807 := by omega
      have hk' : -9223372036854775808 ≤ a0 + k := by omega
      by_cases q : a0 + k < 200 ∨ a0 + k = 204 ∨ a0 + k = 304
      · have hsx : Hid (cf a0 (k + 1) = cf a0 k + 1) := cf_yes a0 k k0 q
        have q' : (a0 + k < 200) ∨ (¬ a0 + k < 200 ∧ (a0 + k != 204) = false) ∨ (¬ a0 + k < 200 ∧ (a0 + k != 204) = true ∧ (a0 + k != 304) = false) := by
          simp; omega
        clear q
        rcases q' with q | ⟨q, q1⟩ | ⟨q, q1, q2⟩
        all_goals
          go_wp2
          go_round
          case rel => exact ⟨k + 1, by omega, by omega, rfl, by rw [hsx.out]⟩
          case measure => simp [intOf]; omega
      · have hsx : Hid (cf a0 (k + 1) = cf a0 k) := cf_no a0 k k0 q
        have q1 : ¬ a0 + k < 200 := by omega
        have q2 : (a0 + k != 204) = true := bne_iff_ne.2 (by omega)
        have q3 : (a0 + k != 304) = true := bne_iff_ne.2 (by omega)
        clear q
        go_wp2
        go_round
        case rel => exact ⟨k + 1, by omega, by omega, rfl, by rw [hsx.out]⟩
        case measure => simp [intOf]; omega
    · have e : k = a1 := by omega
      subst e
      clear hlt
      go_wp2
      all_goals
        go_ret
        refine ⟨congrArg (fun b => Ending.returned (.bool b)) (?_ : _ = true), Grown.refl _⟩
        rw [beq_iff_eq]
        unfold cf
        repeat' split
        all_goals omega

/-! ### THE ROW's STEP: WRITTEN OUT: LEAVE IT -/
set_option maxRecDepth 100000 in
theorem lifted (os : Os) (started : os.Started) (H : Type) (enc : TypeId × Value → H) :
    ReturnsInHanded {} Try.checked os 4 .any (Rows.fnBodyAllowedRefusesExactlyInformationalAnd204And304Spec.pre6 enc Try.prog Try.f4 Rows.fnBodyAllowedRefusesExactlyInformationalAnd204And304Row.domain false) (Rows.fnBodyAllowedRefusesExactlyInformationalAnd204And304Spec.post enc Try.prog Try.f4 false true false false) := by
  refine returnsInHanded_of_change (C := Try.checked) own started (by kernel_rfl) Try.func4
    (ChangeSpec.witness6 (enc := enc) (C := Try.checked) false ⟨#[], #[.int .i64 0, .int .i64 0], []⟩ 8 (by kernel_rfl) (by kernel_rfl) (by kernel_rfl) (by kernel_rfl)) ?_
  intro W base args ds gs before hval0 hW hcnd _
  have hval : ∀ (j : Nat) t v, Try.f4.params[j]? = some t → args[j]? = some v → Value.okWide Try.prog W .any base t v := hval0
  have hW' := hW
  obtain ⟨p, q, hA0, hV, rfl, hfz, hnd⟩ := hW
  have hA : DataW.TrodAll enc Try.prog W 0 (fun _ => true) true Try.f4.params.toList args.toList ds p := hA0
  rw [Try.params4] at hA hval
  obtain ⟨v0, vs0, d0, ds0, p0, q0, hargs, rfl, rfl, h0, r0⟩ := trodAll_cons hA
  obtain ⟨v1, vs1, d1, ds1, p1, q1, rfl, rfl, rfl, h1, r1⟩ := trodAll_cons r0
  obtain ⟨rfl, rfl, rfl⟩ := trodAll_nil r1
  obtain rfl : args = #[v0, v1] := by cases args; simp_all
  obtain ⟨rfl, rfl⟩ := trodVars_none hV
  obtain ⟨a0, rfl, rfl, rfl, w0⟩ := open_int Try.underlying3 (hval 0 3 v0 rfl rfl) h0
  obtain ⟨a1, rfl, rfl, rfl, w1⟩ := open_int Try.underlying3 (hval 1 3 v1 rfl rfl) h1
  clear hA0 hval0
  simp only [List.append_nil] at hW'
  refine (walk a0 a1 w0 w1 W).mono fun e W' ⟨he, hg⟩ => ?_
  subst he
  exact ⟨_, rfl, post_of_same (pa := []) (pv := []) hW' (fun _ _ _ => (trodAll_cons_mk (shut_bool Try.underlying4 _) trodAll_mk0)) (fun sp _ => (trodAll_cons_mk (shut_int Try.underlying3 w0) (trodAll_cons_mk (shut_int Try.underlying3 w1) trodAll_mk0))) (fun _ _ => rfl) rfl
    (hg.frame _) hg.2.1 (ok_one (by kernel_rfl) rfl (okWide_bool_mk Try.underlying4 _))⟩

theorem over : Rows.fnBodyAllowedRefusesExactlyInformationalAnd204And304Row.holds Try.pinned (OpenSpec.ofChange Rows.fnBodyAllowedRefusesExactlyInformationalAnd204And304Spec) :=
  OpenClaim.holds_of_wide 4 Try.f4 rfl rfl rfl rfl rfl rfl rfl ⟨rfl, rfl, rfl, rfl, rfl⟩ rfl rfl rfl rfl rfl (by kernel_rfl) Try.func4 (by kernel_rfl)
    (of_decide_eq_true (by kernel_rfl)) (by unfold Func.isWrapper; first | (rw [if_pos (by decide +kernel)]; kernel_rfl) | (rw [if_neg (by decide +kernel)]; exact ⟨rfl, rfl⟩))
    (fun os started H enc _ => lifted os started H enc)

/-- ████ THE STATEMENT ████ -/
theorem proved : Rows.FnBodyAllowedRefusesExactlyInformationalAnd204And304Said :=
  over
end Go.Proofs.Qxb6616396a.fnBodyAllowedRefusesExactlyInformationalAnd204And304
