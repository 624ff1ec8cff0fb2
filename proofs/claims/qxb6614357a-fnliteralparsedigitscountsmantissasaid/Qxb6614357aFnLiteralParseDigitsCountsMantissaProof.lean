/-
  A proof of 'Rows.FnLiteralParseDigitsCountsMantissaSaid'. The frame is the kit's shell for this function, its closing line turned to 'Below' (the shell's 'Grown' does not hold: '[]byte(digits)' marks its new block); the callees go by the contracts of Qxb6614357aLeaves, Digit, Json, Parse.
-/
import Derived.Test.Qxb6614357aRows
import Derived.Test.Qxb6614357aParse
import Derived.Test.Qxb6614357aJson
import Derived.WalkKit
import Derived.ProofKit
import Derived.OpenShut
import Derived.ShutString
namespace Go.Proofs.Qxb6614357a.fnLiteralParseDigitsCountsMantissa
open Go.ChangeShapes Go.WideShapes Go.ChangeAt Go.RowKit
open Go.ChangeMaps (open_string shut_string)
set_option linter.unusedVariables false      -- a walk need not use every 'w<i>' (that an integer argument fits its kind)

theorem own : ownKnob Try.prog.godebug = none := by kernel_rfl

/-! ### The walk: the Go text returns true and writes nothing that was there. -/
open Go.Proofs.Qxb6614357a.Leaves Go.Deep

theorem newlit_any (w : World) : Calls Try.prog 5 #[] w fun e w' => e = .returned (.pointer (some ⟨w.heap.size, 0, none⟩)) ∧ PW w' w' w.heap.size ⟨#[]⟩ ⟨#[]⟩ 0 0 ∧ Below w.heap.size w w' := by
  go_enter Try.func5, Try.ntmps5
  go_wp2
  go_ret
  refine ⟨rfl, ⟨⟨false, 0, ?_⟩, Below.refl _ _⟩, (Below.refl _ _).alloc (Nat.le_refl _) _⟩
  exact (World.rowIs_alloc w #[.bool false, .string ⟨#[]⟩, .string ⟨#[]⟩, .int .i64 0, .int .i64 0, .int .i64 0] 29 (lv false ⟨#[]⟩ ⟨#[]⟩ 0 0 0) (fun i hi => by rcases i with _ | _ | _ | _ | _ | _ | i <;> first | rfl | (simp at hi; omega)))

theorem zzparse_any (b : Nat) (s : ByteArray) (w : World) (hs : s.size ≤ 1048576) (h0 : PW w w b ⟨#[]⟩ ⟨#[]⟩ 0 0) :
    Calls Try.prog 6 #[.pointer (some ⟨b, 0, none⟩), .string s] w fun e w' => e = .returned (.bool (Plain.J (lst s))) ∧ Below b w w' ∧ (Plain.J (lst s) = true → Go.Proofs.Qxb6614357a.Leaves.Good w w' b (lst s)) := by
  go_enter Try.func6, Try.ntmps6
  go_wp2_with fail
  refine (parse_any b s _ hs h0).mono ?_
  rintro e w' ⟨rfl, h1, h2⟩
  have H := hide h2
  clear h2 h0
  go_wp2_with fail
  go_ret
  exact ⟨rfl, h1, unhide H⟩

set_option maxHeartbeats 1000000 in
theorem walk (a0 : ByteArray) (w0 : a0.size ≤ maxLen) (w : World) :
    Calls Try.prog 3 #[.string a0] w fun e w' => e = .returned (.bool true) ∧ Below w.heap.size w w' := by
  by_cases hs : a0.size ≤ 1048576
  · have hb : (a0.size : Int) ≤ 1048576 := by omega
    have B := bytes_any a0 w w0
    rw [decide_eq_true hs] at B
    have HB := hide B
    clear B
    go_enter Try.func3, Try.ntmps3
    go_wp2_with fail
    refine (unhide HB).mono ?_
    rintro e w1 ⟨rfl, hw⟩
    replace hw := hw.symm
    subst hw
    clear HB
    go_wp2_with fail
    refine (newlit_any _).mono ?_
    rintro e w1 ⟨rfl, hP, k1⟩
    go_wp2_with fail
    refine (zzparse_any _ a0 _ hs hP).mono ?_
    rintro e w2 ⟨rfl, k2, hg⟩
    have HG := hide hg
    have k3 : Below w.heap.size w w2 := k1.trans k2
    clear hg hP k1 k2
    go_wp2_with fail
    refine (json_any a0 _ hs).mono ?_
    rintro e w4 ⟨rfl, hw⟩
    replace hw := hw.symm
    subst hw
    cases hJ : Plain.J (lst a0) with
    | false =>
      clear HG
      go_wp2_with fail
      go_ret
      exact ⟨rfl, k3⟩
    | true =>
      obtain ⟨W, R, x, f, hP, hc, s1, s2⟩ := unhide HG hJ
      have hm := Plain.mant_J (lst a0) hJ
      have hcm : ((W.size : Int) + (R.size : Int)) = (Plain.mant (lst a0) : Int) := by rw [hm, ← hc]; omega
      have HC := hide hcm
      clear HG hJ hc hm hcm
      go_wp2_with fail
      refine (zzdigits_any _ W R _ (hP.lit2 s1 s2)).mono ?_
      rintro e w5 ⟨rfl, nq, rfl⟩
      rw [unhide HC]
      have k4 : Below w.heap.size w (w2.drewN nq) := below_drewN k3 nq
      clear hP k3
      go_wp2_with fail
      refine (mant_any a0 _ hs).mono ?_
      rintro e w6 ⟨rfl, hw⟩
      subst hw
      go_wp2_with fail
      go_ret
      exact ⟨rfl, k4⟩
  · have B := bytes_any a0 w w0
    rw [decide_eq_false hs] at B
    have HB := hide B
    clear B
    go_enter Try.func3, Try.ntmps3
    go_wp2_with fail
    refine (unhide HB).mono ?_
    rintro e w1 ⟨rfl, rfl⟩
    go_wp2_with fail
    go_ret
    exact ⟨rfl, Below.refl _ _⟩

/-! ### The row's step -/
set_option maxRecDepth 100000 in
theorem lifted (os : Os) (started : os.Started) (H : Type) (enc : TypeId × Value → H) :
    ReturnsInHanded {} Try.checked os 3 .any (Rows.fnLiteralParseDigitsCountsMantissaSpec.pre6 enc Try.prog Try.f3 Rows.fnLiteralParseDigitsCountsMantissaRow.domain false) (Rows.fnLiteralParseDigitsCountsMantissaSpec.post enc Try.prog Try.f3 false true false false) := by
  refine returnsInHanded_of_change (C := Try.checked) own started (by kernel_rfl) Try.func3
    (ChangeSpec.witness6 (enc := enc) (C := Try.checked) false ⟨#[], #[.string ByteArray.empty], []⟩ 8 (by kernel_rfl) (by kernel_rfl) (by kernel_rfl) (by kernel_rfl)) ?_
  intro W base args ds gs before hval0 hW hcnd _
  have hval : ∀ (j : Nat) t v, Try.f3.params[j]? = some t → args[j]? = some v → Value.okWide Try.prog W .any base t v := hval0
  have hW' := hW
  obtain ⟨p, q, hA0, hV, rfl, hfz, hnd⟩ := hW
  have hA : DataW.TrodAll enc Try.prog W 0 (fun _ => true) true Try.f3.params.toList args.toList ds p := hA0
  rw [Try.params3] at hA hval
  obtain ⟨v0, vs0, d0, ds0, p0, q0, hargs, rfl, rfl, h0, r0⟩ := trodAll_cons hA
  obtain ⟨rfl, rfl, rfl⟩ := trodAll_nil r0
  obtain rfl : args = #[v0] := by cases args; simp_all
  obtain ⟨rfl, rfl⟩ := trodVars_none hV
  obtain ⟨a0, rfl, rfl, rfl, w0⟩ := open_string Try.underlying9 (hval 0 9 v0 rfl rfl) h0
  clear hA0 hval0
  simp only [List.append_nil] at hW'
  refine (walk a0 w0 W).mono fun e W' ⟨he, hg⟩ => ?_
  subst he
  exact ⟨_, rfl, _, _, _, [], [], [], hW', trodAll_mk1 (shut_bool Try.underlying4 _), (trodAll_cons_mk (shut_string Try.underlying9 w0) trodAll_mk0), rfl, hg.frame _, fun h => by cases h⟩

theorem over : Rows.fnLiteralParseDigitsCountsMantissaRow.holds Try.pinned (OpenSpec.ofChange Rows.fnLiteralParseDigitsCountsMantissaSpec) :=
  OpenClaim.holds_of_wide 3 Try.f3 rfl rfl rfl rfl rfl rfl rfl ⟨rfl, rfl, rfl, rfl, rfl⟩ rfl rfl rfl rfl rfl (by kernel_rfl) Try.func3 (by kernel_rfl)
    (of_decide_eq_true (by kernel_rfl)) (by unfold Func.isWrapper; first | (rw [if_pos (by decide +kernel)]; kernel_rfl) | (rw [if_neg (by decide +kernel)]; exact ⟨rfl, rfl⟩))
    (fun os started H enc _ => lifted os started H enc)

/-- The statement. -/
theorem proved : Rows.FnLiteralParseDigitsCountsMantissaSaid :=
  over
end Go.Proofs.Qxb6614357a.fnLiteralParseDigitsCountsMantissa
