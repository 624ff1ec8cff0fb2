/-
  A proof of 'Rows.FnGB18030QuadOrderFollowsNumberSaid'. The frame is the kit's shell for this function; the callees go by the contracts of Qxb6614265aQuads.
-/
import Derived.Test.Qxb6614265aRows
import Derived.Test.Qxb6614265aQuads
import Derived.WalkKit
import Derived.ProofKit
import Derived.OpenShut
import Derived.ShutString
namespace Go.Proofs.Qxb6614265a.fnGB18030QuadOrderFollowsNumber
open Go.ChangeShapes Go.WideShapes Go.ChangeAt Go.RowKit
open Go.ChangeMaps (open_string shut_string)
set_option linter.unusedVariables false      -- a walk need not use every 'w<i>' (that an integer argument fits its kind)

theorem own : ownKnob Try.prog.godebug = none := by kernel_rfl

/-! ### The walk: the Go text returns true; the world has at most new blocks. -/
open Quads

set_option maxHeartbeats 1000000 in
theorem walk (a0 : Int) (a1 : Int) (w0 : (Lit.int .i64 a0).wf = true) (w1 : (Lit.int .i64 a1).wf = true) (w : World) :
    Calls Try.prog 4 #[.int .i64 a0, .int .i64 a1] w fun e w' => e = .returned (.bool true) ∧ Grown w w' := by
  by_cases g0 : a0 < 0
  · go_enter Try.func4, Try.ntmps4
    go_wp2_with fail
    go_ret
    exact ⟨rfl, Grown.refl _⟩
  by_cases g1 : 1587599 < a0
  · go_enter Try.func4, Try.ntmps4
    go_wp2_with fail
    go_ret
    exact ⟨rfl, Grown.refl _⟩
  by_cases g2 : a1 < 0
  · go_enter Try.func4, Try.ntmps4
    go_wp2_with fail
    go_ret
    exact ⟨rfl, Grown.refl _⟩
  by_cases g3 : 1587599 < a1
  · go_enter Try.func4, Try.ntmps4
    go_wp2_with fail
    go_ret
    exact ⟨rfl, Grown.refl _⟩
  clear w0 w1
  rcases Int.lt_trichotomy a0 a1 with hc | hc | hc
  · go_enter Try.func4, Try.ntmps4
    go_wp2_with fail
    refine (quad_has a0 _ (by omega) (by omega)).mono ?_
    rintro e w1 ⟨b, rfl, hb, k1⟩
    go_wp2_with fail
    refine (quad_has a1 _ (by omega) (by omega)).mono ?_
    rintro e w2 ⟨c, rfl, hc2, k2⟩
    replace hb := k2.2 _ _ hb
    replace k2 := k1.trans k2
    clear k1
    go_wp2_with fail
    refine (valid_has a0 b _ (by omega) (by omega) hb).mono ?_
    rintro e w3 ⟨rfl, rfl⟩
    go_wp2_with fail
    refine (valid_has a1 c _ (by omega) (by omega) hc2).mono ?_
    rintro e w4 ⟨rfl, rfl⟩
    go_wp2_with fail
    refine (compare_has a0 a1 b c _ (by omega) (by omega) (by omega) (by omega) hb hc2).mono ?_
    rintro e w5 ⟨⟨r, rfl, r1, r2, r3⟩, k3⟩
    replace k3 := k2.trans k3
    obtain rfl := r1 hc
    clear r1 r2 r3 k2 hb hc2
    go_wp2_with fail
    go_ret
    exact ⟨rfl, k3.1⟩
  · subst hc
    go_enter Try.func4, Try.ntmps4
    go_wp2_with fail
    refine (quad_has a0 _ (by omega) (by omega)).mono ?_
    rintro e w1 ⟨b, rfl, hb, k1⟩
    go_wp2_with fail
    refine (quad_has a0 _ (by omega) (by omega)).mono ?_
    rintro e w2 ⟨c, rfl, hc2, k2⟩
    replace hb := k2.2 _ _ hb
    replace k2 := k1.trans k2
    clear k1
    go_wp2_with fail
    refine (valid_has a0 b _ (by omega) (by omega) hb).mono ?_
    rintro e w3 ⟨rfl, rfl⟩
    go_wp2_with fail
    refine (valid_has a0 c _ (by omega) (by omega) hc2).mono ?_
    rintro e w4 ⟨rfl, rfl⟩
    go_wp2_with fail
    refine (compare_has a0 a0 b c _ (by omega) (by omega) (by omega) (by omega) hb hc2).mono ?_
    rintro e w5 ⟨⟨r, rfl, r1, r2, r3⟩, k3⟩
    replace k3 := k2.trans k3
    obtain rfl := r3 rfl
    clear r1 r2 r3 k2 hb hc2
    go_wp2_with fail
    go_ret
    exact ⟨rfl, k3.1⟩
  · go_enter Try.func4, Try.ntmps4
    go_wp2_with fail
    refine (quad_has a0 _ (by omega) (by omega)).mono ?_
    rintro e w1 ⟨b, rfl, hb, k1⟩
    go_wp2_with fail
    refine (quad_has a1 _ (by omega) (by omega)).mono ?_
    rintro e w2 ⟨c, rfl, hc2, k2⟩
    replace hb := k2.2 _ _ hb
    replace k2 := k1.trans k2
    clear k1
    go_wp2_with fail
    refine (valid_has a0 b _ (by omega) (by omega) hb).mono ?_
    rintro e w3 ⟨rfl, rfl⟩
    go_wp2_with fail
    refine (valid_has a1 c _ (by omega) (by omega) hc2).mono ?_
    rintro e w4 ⟨rfl, rfl⟩
    go_wp2_with fail
    refine (compare_has a0 a1 b c _ (by omega) (by omega) (by omega) (by omega) hb hc2).mono ?_
    rintro e w5 ⟨⟨r, rfl, r1, r2, r3⟩, k3⟩
    replace k3 := k2.trans k3
    obtain rfl := r2 hc
    clear r1 r2 r3 k2 hb hc2
    go_wp2_with fail
    go_ret
    exact ⟨rfl, k3.1⟩

/-! ### The row's step -/
set_option maxRecDepth 100000 in
theorem lifted (os : Os) (started : os.Started) (H : Type) (enc : TypeId × Value → H) :
    ReturnsInHanded {} Try.checked os 4 .any (Rows.fnGB18030QuadOrderFollowsNumberSpec.pre6 enc Try.prog Try.f4 Rows.fnGB18030QuadOrderFollowsNumberRow.domain false) (Rows.fnGB18030QuadOrderFollowsNumberSpec.post enc Try.prog Try.f4 false true false false) := by
  refine returnsInHanded_of_change (C := Try.checked) own started (by kernel_rfl) Try.func4
    (ChangeSpec.witness6 (enc := enc) (C := Try.checked) false ⟨#[], #[.int .i64 0, .int .i64 0], []⟩ 8 (by kernel_rfl) (by kernel_rfl) (by kernel_rfl) (by kernel_rfl)) ?_
  intro W base args ds gs before hval0 hW hcnd _
  have hval : ∀ (j : Nat) t v, Try.f4.params[j]? = some t → args[j]? = some v → Value.okWide Try.prog W .any base t v := hval0
  have hW' := hW
  obtain ⟨p, q, hA0, hV, rfl, hfz, hnd⟩ := hW
  have hA : DataW.TrodAll enc Try.prog W 0 (fun _ => true) true Try.f4.params.toList args.toList ds p := hA0
  rw [Try.params4] at hA hval
  obtain ⟨v0, vs0, d0, ds0, p0, q0, hargs, rfl, rfl, h0, r0⟩ := trodAll_cons hA
  obtain ⟨v1, vs1, d1, ds1, p1, q1, rfl, rfl, rfl, h1, r1⟩ := trodAll_cons r0
  obtain ⟨rfl, rfl, rfl⟩ := trodAll_nil r1
  obtain rfl : args = #[v0, v1] := by cases args; simp_all
  obtain ⟨rfl, rfl⟩ := trodVars_none hV
  obtain ⟨a0, rfl, rfl, rfl, w0⟩ := open_int Try.underlying3 (hval 0 3 v0 rfl rfl) h0
  obtain ⟨a1, rfl, rfl, rfl, w1⟩ := open_int Try.underlying3 (hval 1 3 v1 rfl rfl) h1
  clear hA0 hval0
  simp only [List.append_nil] at hW'
  refine (walk a0 a1 w0 w1 W).mono fun e W' ⟨he, hg⟩ => ?_
  subst he
  exact ⟨_, rfl, post_of_same (pa := []) (pv := []) hW' (fun _ _ _ => (trodAll_cons_mk (shut_bool Try.underlying4 _) trodAll_mk0)) (fun sp _ => (trodAll_cons_mk (shut_int Try.underlying3 w0) (trodAll_cons_mk (shut_int Try.underlying3 w1) trodAll_mk0))) (fun _ _ => rfl) rfl
    (hg.frame _) hg.2.1 (ok_one (by kernel_rfl) rfl (okWide_bool_mk Try.underlying4 _))⟩

theorem over : Rows.fnGB18030QuadOrderFollowsNumberRow.holds Try.pinned (OpenSpec.ofChange Rows.fnGB18030QuadOrderFollowsNumberSpec) :=
  OpenClaim.holds_of_wide 4 Try.f4 rfl rfl rfl rfl rfl rfl rfl ⟨rfl, rfl, rfl, rfl, rfl⟩ rfl rfl rfl rfl rfl (by kernel_rfl) Try.func4 (by kernel_rfl)
    (of_decide_eq_true (by kernel_rfl)) (by unfold Func.isWrapper; first | (rw [if_pos (by decide +kernel)]; kernel_rfl) | (rw [if_neg (by decide +kernel)]; exact ⟨rfl, rfl⟩))
    (fun os started H enc _ => lifted os started H enc)

/-- The statement. -/
theorem proved : Rows.FnGB18030QuadOrderFollowsNumberSaid :=
  over
end Go.Proofs.Qxb6614265a.fnGB18030QuadOrderFollowsNumber
