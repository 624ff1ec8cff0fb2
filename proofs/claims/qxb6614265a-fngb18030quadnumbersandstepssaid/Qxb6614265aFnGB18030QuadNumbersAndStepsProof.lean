/-
  A proof of 'Rows.FnGB18030QuadNumbersAndStepsSaid'. The frame is the kit's shell for this function; the callees go by the contracts of Qxb6614265aQuads.
-/
import Derived.Test.Qxb6614265aRows
import Derived.Test.Qxb6614265aQuads
import Derived.WalkKit
import Derived.ProofKit
import Derived.OpenShut
import Derived.ShutString
namespace Go.Proofs.Qxb6614265a.fnGB18030QuadNumbersAndSteps
open Go.ChangeShapes Go.WideShapes Go.ChangeAt Go.RowKit
open Go.ChangeMaps (open_string shut_string)
set_option linter.unusedVariables false      -- a walk need not use every 'w<i>' (that an integer argument fits its kind)

theorem own : ownKnob Try.prog.godebug = none := by kernel_rfl

/-! ### The walk: the Go text returns true; the world has at most new blocks. -/
open Quads

set_option maxHeartbeats 1000000 in
theorem walk (a0 : Int) (w0 : (Lit.int .i64 a0).wf = true) (w : World) :
    Calls Try.prog 3 #[.int .i64 a0] w fun e w' => e = .returned (.bool true) ∧ Grown w w' := by
  by_cases g0 : a0 < 0
  · go_enter Try.func3, Try.ntmps3
    go_wp2_with fail
    go_ret
    exact ⟨rfl, Grown.refl _⟩
  by_cases g1 : 1587599 < a0
  · go_enter Try.func3, Try.ntmps3
    go_wp2_with fail
    go_ret
    exact ⟨rfl, Grown.refl _⟩
  clear w0
  by_cases hl : a0 = 1587599
  · subst hl
    go_enter Try.func3, Try.ntmps3
    go_wp2_with fail
    refine (quad_has 1587599 _ (by omega) (by omega)).mono ?_
    rintro e w1 ⟨b, rfl, hb, k1⟩
    go_wp2_with fail
    refine (valid_has 1587599 b _ (by omega) (by omega) hb).mono ?_
    rintro e w2 ⟨rfl, rfl⟩
    go_wp2_with fail
    refine (number_has 1587599 b _ (by omega) (by omega) hb).mono ?_
    rintro e w3 ⟨rfl, k3⟩
    replace k3 := k1.trans k3
    clear k1 hb
    go_wp2_with fail
    go_ret
    exact ⟨rfl, k3.1⟩
  · have hlt : a0 < 1587599 := by omega
    have hne : (a0 == 1587599) = false := beq_eq_false_iff_ne.2 hl
    clear hl
    go_enter Try.func3, Try.ntmps3
    go_wp2_with fail
    refine (quad_has a0 _ (by omega) (by omega)).mono ?_
    rintro e w1 ⟨b, rfl, hb, k1⟩
    go_wp2_with fail
    refine (valid_has a0 b _ (by omega) (by omega) hb).mono ?_
    rintro e w2 ⟨rfl, rfl⟩
    go_wp2_with fail
    refine (number_has a0 b _ (by omega) (by omega) hb).mono ?_
    rintro e w3 ⟨rfl, k3⟩
    replace hb := k3.2 _ _ hb
    replace k3 := k1.trans k3
    clear k1
    go_wp2_with fail
    refine (quad_has (a0 + 1) _ (by omega) (by omega)).mono ?_
    rintro e w4 ⟨c, rfl, hc, k4⟩
    replace hb := k4.2 _ _ hb
    replace k4 := k3.trans k4
    clear k3
    go_wp2_with fail
    refine (valid_has (a0 + 1) c _ (by omega) (by omega) hc).mono ?_
    rintro e w5 ⟨rfl, rfl⟩
    go_wp2_with fail
    refine (next_has a0 b _ (by omega) (by omega) hb).mono ?_
    rintro e w6 ⟨d, rfl, hd, k6⟩
    replace hc := k6.2 _ _ hc
    replace k6 := k4.trans k6
    clear k4 hb
    go_wp2_with fail
    refine (equal_has _ c d _ hc hd).mono ?_
    rintro e w7 ⟨rfl, k7⟩
    replace k7 := k6.trans k7
    clear k6 hc hd
    go_wp2_with fail
    go_ret
    exact ⟨rfl, k7.1⟩

/-! ### The row's step -/
set_option maxRecDepth 100000 in
theorem lifted (os : Os) (started : os.Started) (H : Type) (enc : TypeId × Value → H) :
    ReturnsInHanded {} Try.checked os 3 .any (Rows.fnGB18030QuadNumbersAndStepsSpec.pre6 enc Try.prog Try.f3 Rows.fnGB18030QuadNumbersAndStepsRow.domain false) (Rows.fnGB18030QuadNumbersAndStepsSpec.post enc Try.prog Try.f3 false true false false) := by
  refine returnsInHanded_of_change (C := Try.checked) own started (by kernel_rfl) Try.func3
    (ChangeSpec.witness6 (enc := enc) (C := Try.checked) false ⟨#[], #[.int .i64 0], []⟩ 8 (by kernel_rfl) (by kernel_rfl) (by kernel_rfl) (by kernel_rfl)) ?_
  intro W base args ds gs before hval0 hW hcnd _
  have hval : ∀ (j : Nat) t v, Try.f3.params[j]? = some t → args[j]? = some v → Value.okWide Try.prog W .any base t v := hval0
  have hW' := hW
  obtain ⟨p, q, hA0, hV, rfl, hfz, hnd⟩ := hW
  have hA : DataW.TrodAll enc Try.prog W 0 (fun _ => true) true Try.f3.params.toList args.toList ds p := hA0
  rw [Try.params3] at hA hval
  obtain ⟨v0, vs0, d0, ds0, p0, q0, hargs, rfl, rfl, h0, r0⟩ := trodAll_cons hA
  obtain ⟨rfl, rfl, rfl⟩ := trodAll_nil r0
  obtain rfl : args = #[v0] := by cases args; simp_all
  obtain ⟨rfl, rfl⟩ := trodVars_none hV
  obtain ⟨a0, rfl, rfl, rfl, w0⟩ := open_int Try.underlying3 (hval 0 3 v0 rfl rfl) h0
  clear hA0 hval0
  simp only [List.append_nil] at hW'
  refine (walk a0 w0 W).mono fun e W' ⟨he, hg⟩ => ?_
  subst he
  exact ⟨_, rfl, post_of_same (pa := []) (pv := []) hW' (fun _ _ _ => (trodAll_cons_mk (shut_bool Try.underlying4 _) trodAll_mk0)) (fun sp _ => (trodAll_cons_mk (shut_int Try.underlying3 w0) trodAll_mk0)) (fun _ _ => rfl) rfl
    (hg.frame _) hg.2.1 (ok_one (by kernel_rfl) rfl (okWide_bool_mk Try.underlying4 _))⟩

theorem over : Rows.fnGB18030QuadNumbersAndStepsRow.holds Try.pinned (OpenSpec.ofChange Rows.fnGB18030QuadNumbersAndStepsSpec) :=
  OpenClaim.holds_of_wide 3 Try.f3 rfl rfl rfl rfl rfl rfl rfl ⟨rfl, rfl, rfl, rfl, rfl⟩ rfl rfl rfl rfl rfl (by kernel_rfl) Try.func3 (by kernel_rfl)
    (of_decide_eq_true (by kernel_rfl)) (by unfold Func.isWrapper; first | (rw [if_pos (by decide +kernel)]; kernel_rfl) | (rw [if_neg (by decide +kernel)]; exact ⟨rfl, rfl⟩))
    (fun os started H enc _ => lifted os started H enc)

/-- The statement. -/
theorem proved : Rows.FnGB18030QuadNumbersAndStepsSaid :=
  over
end Go.Proofs.Qxb6614265a.fnGB18030QuadNumbersAndSteps
