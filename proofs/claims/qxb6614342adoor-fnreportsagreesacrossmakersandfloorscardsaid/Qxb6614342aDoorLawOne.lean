/-
  The walk of FnReportsFollowsLastDetectAmong. (Seat b6614342aD.)
-/
import Derived.Test.Qxb6614342aDoorMaker
namespace Go.Proofs.Qxb6614342aDoor.Leaves
open Go.RowKit Go.Deep Go.Maps Go.Proofs.Qxb6614342aDoor
set_option linter.unusedVariables false

set_option maxRecDepth 100000 in
set_option maxHeartbeats 1000000 in
theorem manager_any (N g o c0 : Nat) (a1 : Option Addr) (c1 : Nat) (p q c : Int) (w : World) (hG : Glob N w g o c0 a1 c1) (hN : N ≤ w.heap.size) :
    Calls Tryd.prog 7 #[.agg #[.int .u8 p, .int .u8 q, .int .u8 c]] w fun e w' => (∃ b, e = .returned (.pointer (some ⟨b, 0, none⟩)) ∧ w.heap.size ≤ b ∧ Mgr w' b p 1) ∧ w.grownBy w' none := by
  have g0 := World.grownBy_alloc w (.cells #[.int .u8 p, .int .u8 q, .int .u8 c] 31) none
  have hG1 := hG.grown g0 hN (fun r hr => by cases hr)
  have H := hide hG1
  clear hG1
  go_enter Tryd.func7, Tryd.ntmps7
  go_wp2_with fail
  refine (cluster_any N g o c0 a1 c1 _ p q c _ (unhide H) (by simp; omega)).mono ?_
  rintro e w1 ⟨⟨b, rfl, hb, hM⟩, k1⟩
  clear H
  go_wp2_with fail
  go_ret
  exact ⟨⟨b, rfl, by simp at hb; omega, hM⟩, grown_trans g0 k1⟩

theorem below_of {w w' : World} (h : w.grownBy w' none) : Below w.heap.size w w' :=
  (Below.refl _ _).grown h (Nat.le_refl _) (fun r hr => by cases hr)

theorem rep_one (p : Int) : rep p 1 = false := by simp [rep]
theorem rep_yes (p : Int) (n : Nat) (h : (p == 4) = true) : rep p n = decide ((1 : Int) < (n : Int)) := by
  rw [rep, h, Bool.true_and, decide_eq_decide]; omega
theorem rep_no (p : Int) (n : Nat) (h : (p == 4) = false) : rep p n = false := by
  rw [rep, h]; rfl

set_option maxRecDepth 100000 in
set_option maxHeartbeats 4000000 in
theorem law_one (g o c0 : Nat) (a1 : Option Addr) (c1 na nb : Nat) (p q c : Int) (va vb : Value) (w : World) (hG : Glob w.heap.size w g o c0 a1 c1)
    (xa : Option Addr) (ca : Nat) (hva : va = .slice xa na ca) (xb : Option Addr) (cb : Nat) (hvb : vb = .slice xb nb cb)
    (ha : Sl w.heap.size w va na) (hb : Sl w.heap.size w vb nb) :
    Calls Tryd.prog 3 #[.int .u8 p, .int .u8 q, .int .u8 c, va, vb] w fun e w' => e = .returned (.bool true) ∧ Below w.heap.size w w' := by
  subst hva hvb
  go_enter Tryd.func3, Tryd.ntmps3
  go_wp2_with fail
  refine (zzb5 w.heap.size na nb _ _ _ p q c ha hb).mono ?_
  rintro e w1 ⟨⟨r, rfl⟩, hw⟩
  replace hw := hw.symm
  subst hw
  cases r with
  | false =>
    go_wp2_with fail
    go_ret
    exact ⟨rfl, Below.refl _ _⟩
  | true =>
    by_cases la : (65536 : Int) < (na : Int)
    · go_wp2_with fail
      go_ret
      exact ⟨rfl, Below.refl _ _⟩
    by_cases lb : (65536 : Int) < (nb : Int)
    · go_wp2_with fail
      go_ret
      exact ⟨rfl, Below.refl _ _⟩
    go_wp2_with fail
    refine (sbytes_any w.heap.size na _ 1048576 _ ha).mono ?_
    rintro e w1 ⟨⟨r1, rfl⟩, hw⟩
    replace hw := hw.symm
    subst hw
    by_cases l1 : (1048576 : Int) < r1
    · go_wp2_with fail
      go_ret
      exact ⟨rfl, Below.refl _ _⟩
    go_wp2_with fail
    refine (sbytes_any w.heap.size nb _ _ _ hb).mono ?_
    rintro e w1 ⟨⟨r2, rfl⟩, hw⟩
    replace hw := hw.symm
    subst hw
    go_upto_if 43 with fail
    generalize wrap64 (r1 + r2) = r3
    by_cases l2 : (1048576 : Int) < r3
    · go_wp2_with fail
      go_ret
      exact ⟨rfl, Below.refl _ _⟩
    have lan : na ≤ 65536 := by omega
    have lbn : nb ≤ 65536 := by omega
    go_wp2_with fail
    refine (manager_any w.heap.size g o c0 a1 c1 p q c _ hG (Nat.le_refl _)).mono ?_
    rintro e w1 ⟨⟨b, rfl, hbb, hM⟩, k1⟩
    clear hG
    go_wp2_with fail
    refine (reports_any b 1 p _ hM (by omega)).mono ?_
    rintro e w2 ⟨rfl, hw⟩
    replace hw := hw.symm
    subst hw
    rw [rep_one]
    have ha1 := ha.below (below_of k1) (Nat.le_refl _)
    have hb1 := hb.below (below_of k1) (Nat.le_refl _)
    have hs1 := k1.size
    clear ha hb
    go_wp2_with fail
    refine (detect_any w.heap.size b na 1 p _ _ hM ha1 hs1 lan).mono ?_
    rintro e w3 ⟨rfl, hM3, k3⟩
    have k3' := grown_row k1 k3 hbb
    have hb3 := hb1.below ((Below.refl w.heap.size w1).grown k3 hs1 (fun r hr => by cases hr; exact hbb)) (Nat.le_refl _)
    have hs3 := k3'.size
    clear hM ha1 hb1 k1 k3 hs1
    go_wp2_with fail
    refine (reports_any b na p _ hM3 (by omega)).mono ?_
    rintro e w4 ⟨rfl, hw⟩
    replace hw := hw.symm
    subst hw
    go_wp2_with fail
    refine (detect_any w.heap.size b nb na p _ _ hM3 hb3 hs3 lbn).mono ?_
    rintro e w5 ⟨rfl, hM5, k5⟩
    have k5' := grown_row k3' k5 hbb
    clear hM3 hb3 k3' k5 hs3
    go_wp2_with fail
    refine (reports_any b nb p _ hM5 (by omega)).mono ?_
    rintro e w6 ⟨rfl, hw⟩
    replace hw := hw.symm
    subst hw
    clear hM5
    by_cases hp : (p == 4) = true
    · rw [rep_yes p na hp, rep_yes p nb hp]
      go_wp2_with fail
      go_ret
      exact ⟨by simp, below_of k5'⟩
    · have hp' : (p == 4) = false := by simpa using hp
      clear hp
      rw [rep_no p na hp', rep_no p nb hp']
      go_wp2_with fail
      go_ret
      exact ⟨by simp, below_of k5'⟩
end Go.Proofs.Qxb6614342aDoor.Leaves
