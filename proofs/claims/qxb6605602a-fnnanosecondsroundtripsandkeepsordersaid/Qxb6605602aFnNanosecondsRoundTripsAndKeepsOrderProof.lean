/-
  A proof of 'Rows.FnNanosecondsRoundTripsAndKeepsOrderSaid'. The frame is the kit's shell for this function; the callees go by the contracts of Qxb6605602aNanos, the float laws are Qxb6605602aFloat's.
-/
import Derived.Test.Qxb6605602aRows
import Derived.Test.Qxb6605602aNanos
import Derived.WalkKit
import Derived.ProofKit
import Derived.OpenShut
import Derived.ShutString
import Derived.ChangeOld
import Derived.Below
namespace Go.Proofs.Qxb6605602a.fnNanosecondsRoundTripsAndKeepsOrder
open Go.ChangeShapes Go.WideShapes Go.ChangeAt Go.RowKit
open Go.ChangeMaps (open_string shut_string)
set_option linter.unusedVariables false

theorem own : ownKnob Try.prog.godebug = none := by kernel_rfl
theorem laidOut : laidOutB Try.prog = true := by kernel_rfl

/-- WHAT THE WALK IS TOLD OF A SLICE OF INTEGERS THAT CAME IN: it is nil; or it leads to a row of 'cap' cells, the numbers 'zs' (the first 'len' are its elements, the rest its spare room), each fitting its kind. -/
def IsRow (k : IntKind) (w : World) (a : Option Addr) (len cap : Nat) (zs : List Int) : Prop :=
  (a = none ∧ len = 0 ∧ cap = 0 ∧ zs = []) ∨
  ∃ x, a = some x ∧ len ≤ cap ∧ cap ≤ maxLen ∧ zs.length = cap ∧ (∀ i, i < zs.length → w.cell? (x.add i) = some (.int k (zs.getD i 0))) ∧ ∀ n ∈ zs, (Lit.int k n).wf = true

/-! ### The walk: the Go text returns true and writes nothing that was there. -/
open Nanos Go.Deep

theorem hide {p : Prop} (h : p) : Hid p := h
theorem unhide {p : Prop} (h : Hid p) : p := h.out

/-- the order of two counts' floats, as the walk asks for it -/
theorem ord (a b : Int) (L : Nat) (hL : Flt.F b = L) (ha : -9223372036854775808 ≤ a ∧ a ≤ 9223372036854775808) (hb : -9223372036854775808 ≤ b ∧ b ≤ 9223372036854775808) :
    FloatKind.f64.format.order (floatOfInt .f64 a) L = some (compare (Flt.srnd a) (Flt.srnd b)) := by
  rw [← hL]
  exact Flt.order_F a b (by omega) (by omega) (by omega) (by omega)
theorem ord_lt (a b : Int) (L : Nat) (hL : Flt.F b = L) (ha : -9223372036854775808 ≤ a ∧ a ≤ 9223372036854775808) (hb : -9223372036854775808 ≤ b ∧ b ≤ 9223372036854775808) :
    (FloatKind.f64.format.order (floatOfInt .f64 a) L == some Ordering.lt) = decide (Flt.srnd a < Flt.srnd b) := by
  rw [ord a b L hL ha hb, Bool.eq_iff_iff, beq_iff_eq, decide_eq_true_iff, Option.some.injEq, Int.compare_eq_lt]
theorem ord_gt (a b : Int) (L : Nat) (hL : Flt.F b = L) (ha : -9223372036854775808 ≤ a ∧ a ≤ 9223372036854775808) (hb : -9223372036854775808 ≤ b ∧ b ≤ 9223372036854775808) :
    (FloatKind.f64.format.order (floatOfInt .f64 a) L == some Ordering.gt) = decide (Flt.srnd b < Flt.srnd a) := by
  rw [ord a b L hL ha hb, Bool.eq_iff_iff, beq_iff_eq, decide_eq_true_iff, Option.some.injEq, Int.compare_eq_gt]
theorem ord_eq (a b : Int) (L : Nat) (hL : Flt.F b = L) (ha : -9223372036854775808 ≤ a ∧ a ≤ 9223372036854775808) (hb : -9223372036854775808 ≤ b ∧ b ≤ 9223372036854775808) :
    (FloatKind.f64.format.order (floatOfInt .f64 a) L == some Ordering.eq) = decide (Flt.srnd a = Flt.srnd b) := by
  rw [ord a b L hL ha hb, Bool.eq_iff_iff, beq_iff_eq, decide_eq_true_iff, Option.some.injEq, Int.compare_eq_eq]

theorem F0 : Flt.F 0 = 0 := by decide +kernel
theorem FP : Flt.F 9007199254740992 = 4845873199050653696 := by decide +kernel
theorem FN : Flt.F (-9007199254740992) = 14069245235905429504 := by decide +kernel
theorem FT : Flt.F 9223372036854775808 = 4890909195324358656 := by decide +kernel
theorem FB : Flt.F (-9223372036854775808) = 14114281232179134464 := by decide +kernel
theorem S0 : Flt.srnd 0 = 0 := Flt.srnd_exact 0 (by decide) (by decide)
theorem SP : Flt.srnd 9007199254740992 = 9007199254740992 := Flt.srnd_exact _ (by decide) (by decide)
theorem SN : Flt.srnd (-9007199254740992) = -9007199254740992 := Flt.srnd_exact _ (by decide) (by decide)

/-- the tests against nought -/
theorem zero_tests (d : Int) (h : -9223372036854775808 ≤ d ∧ d ≤ 9223372036854775807) :
    (FloatKind.f64.format.order (floatOfInt .f64 d) 0 == some Ordering.lt) = decide (d < 0) ∧ (FloatKind.f64.format.order (floatOfInt .f64 d) 0 == some Ordering.eq) = decide (d = 0) := by
  have h' : -9223372036854775808 ≤ d ∧ d ≤ 9223372036854775808 := by omega
  rw [ord_lt d 0 0 F0 h' (by decide), ord_eq d 0 0 F0 h' (by decide), S0]
  have m1 : d ≤ -1 → Flt.srnd d ≤ -1 := fun hd => by
    have := Flt.srnd_mono d (-1) hd
    rwa [Flt.srnd_exact (-1) (by decide) (by decide)] at this
  have m2 : 1 ≤ d → 1 ≤ Flt.srnd d := fun hd => by
    have := Flt.srnd_mono 1 d hd
    rwa [Flt.srnd_exact 1 (by decide) (by decide)] at this
  have m3 : d = 0 → Flt.srnd d = 0 := fun hd => by rw [hd, S0]
  refine ⟨?_, ?_⟩
  · rw [decide_eq_decide]; omega
  · rw [decide_eq_decide]; omega

/-- a count of at most 2^53 in size -/
theorem small_tests (d : Int) (h1 : -9007199254740992 ≤ d) (h2 : d ≤ 9007199254740992) :
    (FloatKind.f64.format.order (floatOfInt .f64 d) 14069245235905429504 == some Ordering.lt) = false ∧ (FloatKind.f64.format.order (floatOfInt .f64 d) 4845873199050653696 == some Ordering.gt) = false := by
  have h' : -9223372036854775808 ≤ d ∧ d ≤ 9223372036854775808 := by omega
  rw [ord_lt d _ _ FN h' (by decide), ord_gt d _ _ FP h' (by decide), SN, SP, Flt.srnd_exact d h1 h2]
  exact ⟨decide_eq_false (by omega), decide_eq_false (by omega)⟩

/-- a greater one -/
theorem great_tests (d : Int) (h1 : 9007199254740992 < d) (h2 : d ≤ 9223372036854775807) :
    (FloatKind.f64.format.order (floatOfInt .f64 d) 4845873199050653696 == some Ordering.lt) = false ∧ (FloatKind.f64.format.order (floatOfInt .f64 d) 4890909195324358656 == some Ordering.gt) = false := by
  have h' : -9223372036854775808 ≤ d ∧ d ≤ 9223372036854775808 := by omega
  rw [ord_lt d _ _ FP h' (by decide), ord_gt d _ _ FT h' (by decide), SP, Flt.srnd_top]
  have a := Flt.srnd_mono 9007199254740992 d (by omega)
  have b := Flt.srnd_mono d 9223372036854775808 (by omega)
  rw [SP] at a
  rw [Flt.srnd_top] at b
  exact ⟨decide_eq_false (by omega), decide_eq_false (by omega)⟩

/-- a lesser one -/
theorem less_tests (d : Int) (h1 : -9223372036854775808 ≤ d) (h2 : d < -9007199254740992) :
    (FloatKind.f64.format.order (floatOfInt .f64 d) 14069245235905429504 == some Ordering.gt) = false ∧ (FloatKind.f64.format.order (floatOfInt .f64 d) 14114281232179134464 == some Ordering.lt) = false := by
  have h' : -9223372036854775808 ≤ d ∧ d ≤ 9223372036854775808 := by omega
  rw [ord_gt d _ _ FN h' (by decide), ord_lt d _ _ FB h' (by decide), SN, Flt.srnd_bot]
  have a := Flt.srnd_mono d (-9007199254740992) (by omega)
  have b := Flt.srnd_mono (-9223372036854775808) d (by omega)
  rw [SN] at a
  rw [Flt.srnd_bot] at b
  exact ⟨decide_eq_false (by omega), decide_eq_false (by omega)⟩

/-- neighbours keep their order -/
theorem near_leq (d e : Int) (hd : -9223372036854775808 ≤ d ∧ d ≤ 9223372036854775807) (he : -9223372036854775808 ≤ e ∧ e ≤ 9223372036854775807) (h : d ≤ e) :
    (FloatKind.f64.format.order (floatOfInt .f64 d) (floatOfInt .f64 e) == some Ordering.lt || FloatKind.f64.format.order (floatOfInt .f64 d) (floatOfInt .f64 e) == some Ordering.eq) = true := by
  rw [ord_lt d e _ rfl (by omega) (by omega), ord_eq d e _ rfl (by omega) (by omega)]
  have := Flt.srnd_mono d e h
  simp only [Bool.or_eq_true, decide_eq_true_eq]
  omega
theorem near_geq (d e : Int) (hd : -9223372036854775808 ≤ d ∧ d ≤ 9223372036854775807) (he : -9223372036854775808 ≤ e ∧ e ≤ 9223372036854775807) (h : e ≤ d) :
    (FloatKind.f64.format.order (floatOfInt .f64 d) (floatOfInt .f64 e) == some Ordering.gt || FloatKind.f64.format.order (floatOfInt .f64 d) (floatOfInt .f64 e) == some Ordering.eq) = true := by
  rw [ord_gt d e _ rfl (by omega) (by omega), ord_eq d e _ rfl (by omega) (by omega)]
  have := Flt.srnd_mono e d h
  simp only [Bool.or_eq_true, decide_eq_true_eq]
  omega

/-- more than 2^17 counts: the law answers at once -/
theorem law_long (a : Option Addr) (n c : Nat) (w : World) (hn : n ≤ 9223372036854775807) (h : 131072 < n) :
    Calls Try.prog 4 #[.slice a n c] w fun e w' => e = .returned (.bool true) ∧ Below w.heap.size w w' := by
  by_cases h2 : n ≤ 1048576
  · have h' : (131072 : Int) < (n : Int) := by omega
    go_enter Try.func4, Try.ntmps4
    go_wp2_with fail
    refine (bytes2_yes a n c _ h2).mono ?_
    rintro e w' ⟨rfl, rfl⟩
    go_wp2_with fail
    go_ret
    exact ⟨rfl, Below.refl _ _⟩
  · go_enter Try.func4, Try.ntmps4
    go_wp2_with fail
    refine (bytes2_no a n c _ hn (by omega)).mono ?_
    rintro e w' ⟨rfl, rfl⟩
    go_wp2_with fail
    go_ret
    exact ⟨rfl, Below.refl _ _⟩

set_option maxHeartbeats 1000000 in
theorem law_empty (a : Option Addr) (c : Nat) (hc : a = none → c = 0) (w : World) :
    Calls Try.prog 4 #[.slice a 0 c] w fun e w' => e = .returned (.bool true) ∧ Below w.heap.size w w' := by
  go_enter Try.func4, Try.ntmps4
  go_wp2_with fail
  refine (bytes2_yes a 0 c _ (by omega)).mono ?_
  rintro e w' ⟨rfl, rfl⟩
  go_wp2_with fail
  refine (empty_two a c hc _).mono ?_
  rintro e w1 ⟨⟨b, rfl, hb⟩, k1⟩
  go_wp2_with fail
  refine (empty_nanos b _ hb).mono ?_
  rintro e w2 ⟨rfl, k2⟩
  have k3 := k1.trans (k2.mono k1.size)
  clear k1 k2 hb hc
  go_wp2_with fail
  go_loopw [5] (fun i wr => i = .int .i64 0 ∧ wr = w2) (fun _ _ => 0)
  case atStart => exact ⟨rfl, rfl⟩
  case round =>
    obtain ⟨rfl, rfl⟩ := hrel
    go_wp2
    go_ret
    exact ⟨rfl, k3⟩

set_option maxRecDepth 100000 in
set_option maxHeartbeats 8000000 in
theorem law_any (b off n c : Nat) (z : Nat → Int) (w : World) (hn : n ≤ 131072) (hb : b < w.heap.size)
    (hc : ∀ j, j < n → w.cell? ⟨b, off + j, none⟩ = some (.int .i64 (z j))) (hz : ∀ j, j < n → -9223372036854775808 ≤ z j ∧ z j ≤ 9223372036854775807) :
    Calls Try.prog 4 #[.slice (some ⟨b, off, none⟩) n c] w fun e w' => e = .returned (.bool true) ∧ Below w.heap.size w w' := by
  have hn' : (n : Int) ≤ 131072 := by omega
  go_enter Try.func4, Try.ntmps4
  go_wp2_with fail
  refine (bytes2_yes _ n c _ (by omega)).mono ?_
  rintro e w' ⟨rfl, rfl⟩
  go_wp2_with fail
  refine (dur_any b off n c z _ hn hb hc).mono ?_
  rintro e w1 ⟨rfl, hrow, k1⟩
  go_wp2_with fail
  refine (zznanos_any w'.heap.size n z _ hn hrow.lt (fun j hj => hrow.cell hj)).mono ?_
  rintro e w2 ⟨rfl, hrow2, k2⟩
  have hB : Both w' w2 b off n w1.heap.size z := ⟨fun j hj => ((k2.cell (by have := k1.size; show b < _; omega)).trans (k1.cell hb)).trans (hc j hj), fun j hj => hrow2.cell hj, k1.trans (k2.mono k1.size)⟩
  clear hrow hrow2 k1 k2 hc
  go_wp2_with fail
  go_loopw [5] (fun i wr => ∃ k : Nat, k ≤ n ∧ i = .int .i64 k ∧ Both w' wr b off n w1.heap.size z) (fun i _ => n - (intOf i).toNat)
  case atStart => exact ⟨0, by omega, rfl, hB⟩
  case round =>
    clear hB
    obtain ⟨k, hk, rfl, hB⟩ := hrel
    by_cases hlt : k < n
    · have hlt' : (k : Int) < (n : Int) := by omega
      have g1 := hB.ints k hlt
      have g2 := hB.floats k hlt
      have hd := hz k hlt
      obtain ⟨t1, t2⟩ := zero_tests (z k) hd
      have HZ := hide hz
      clear hz
      generalize hzk : z k = d at *
      have HK := hide hzk
      clear hzk
      obtain ⟨d1, d2⟩ := hd
      have hcls : (d < -9007199254740992) ∨ (-9007199254740992 ≤ d ∧ d < 0) ∨ (d = 0) ∨ (0 < d ∧ d ≤ 9007199254740992) ∨ (9007199254740992 < d) := by omega
      rcases hcls with hcl | hcl | hcl | hcl | hcl
      · obtain ⟨t5, t6⟩ := less_tests d d1 hcl
        rw [decide_eq_true (show d < 0 by omega)] at t1
        rw [decide_eq_false (show ¬ d = 0 by omega)] at t2
        have t0 : (d == 0) = false := beq_eq_false_iff_ne.2 (by omega)
        by_cases hnx : k + 1 < n
        · have hnx' : (k : Int) + 1 < (n : Int) := by omega
          have g3 : wr.cell? ⟨b, off + (k + 1), none⟩ = some (.int .i64 (z (k + 1))) := hB.ints (k + 1) hnx
          have g3' : wr.cell? ⟨b, off + k + 1, none⟩ = some (.int .i64 (z (k + 1))) := g3
          have g4 := hB.floats (k + 1) hnx
          obtain ⟨e1, e2⟩ := unhide HZ (k + 1) hnx
          generalize hze : z (k + 1) = e at *
          have HE := hide hze
          clear hze
          rcases Int.lt_trichotomy d e with ho | ho | ho
          · have t8 := near_leq d e (by omega) (by omega) (by omega)
            go_wp2_with fail
            go_roundw
            case rel => exact ⟨k + 1, by omega, by go_num, hB⟩
            case measure => simp [intOf]; omega
          · subst ho
            have t8 := near_leq d d (by omega) (by omega) (by omega)
            have t9 := near_geq d d (by omega) (by omega) (by omega)
            go_wp2_with fail
            go_roundw
            case rel => exact ⟨k + 1, by omega, by go_num, hB⟩
            case measure => simp [intOf]; omega
          · have t9 := near_geq d e (by omega) (by omega) (by omega)
            go_wp2_with fail
            go_roundw
            case rel => exact ⟨k + 1, by omega, by go_num, hB⟩
            case measure => simp [intOf]; omega
        · have hnx' : ¬ (k : Int) + 1 < (n : Int) := by omega
          go_wp2_with fail
          go_roundw
          case rel => exact ⟨k + 1, by omega, by go_num, hB⟩
          case measure => simp [intOf]; omega
      · obtain ⟨t5, t6⟩ := small_tests d (by omega) (by omega)
        rw [decide_eq_true (show d < 0 by omega)] at t1
        rw [decide_eq_false (show ¬ d = 0 by omega)] at t2
        have t0 : (d == 0) = false := beq_eq_false_iff_ne.2 (by omega)
        have t7 := fun wx => run_convert_float_int (P := Try.prog) wx 28 2 .f64 .i64 _ d (by kernel_rfl) Try.underlying2 (Flt.toInt_F d (by omega) (by omega))
        unfold Flt.F at t7
        obtain ⟨c1, c2⟩ := hcl
        by_cases hnx : k + 1 < n
        · have hnx' : (k : Int) + 1 < (n : Int) := by omega
          have g3 : wr.cell? ⟨b, off + (k + 1), none⟩ = some (.int .i64 (z (k + 1))) := hB.ints (k + 1) hnx
          have g3' : wr.cell? ⟨b, off + k + 1, none⟩ = some (.int .i64 (z (k + 1))) := g3
          have g4 := hB.floats (k + 1) hnx
          obtain ⟨e1, e2⟩ := unhide HZ (k + 1) hnx
          generalize hze : z (k + 1) = e at *
          have HE := hide hze
          clear hze
          rcases Int.lt_trichotomy d e with ho | ho | ho
          · have t8 := near_leq d e (by omega) (by omega) (by omega)
            go_wp2_with fail
            go_roundw
            case rel => exact ⟨k + 1, by omega, by go_num, hB⟩
            case measure => simp [intOf]; omega
          · subst ho
            have t8 := near_leq d d (by omega) (by omega) (by omega)
            have t9 := near_geq d d (by omega) (by omega) (by omega)
            go_wp2_with fail
            go_roundw
            case rel => exact ⟨k + 1, by omega, by go_num, hB⟩
            case measure => simp [intOf]; omega
          · have t9 := near_geq d e (by omega) (by omega) (by omega)
            go_wp2_with fail
            go_roundw
            case rel => exact ⟨k + 1, by omega, by go_num, hB⟩
            case measure => simp [intOf]; omega
        · have hnx' : ¬ (k : Int) + 1 < (n : Int) := by omega
          go_wp2_with fail
          go_roundw
          case rel => exact ⟨k + 1, by omega, by go_num, hB⟩
          case measure => simp [intOf]; omega
      · obtain ⟨t5, t6⟩ := small_tests d (by omega) (by omega)
        rw [decide_eq_false (show ¬ d < 0 by omega)] at t1
        rw [decide_eq_true (show d = 0 by omega)] at t2
        have t7 := fun wx => run_convert_float_int (P := Try.prog) wx 28 2 .f64 .i64 _ d (by kernel_rfl) Try.underlying2 (Flt.toInt_F d (by omega) (by omega))
        unfold Flt.F at t7
        subst hcl
        by_cases hnx : k + 1 < n
        · have hnx' : (k : Int) + 1 < (n : Int) := by omega
          have g3 : wr.cell? ⟨b, off + (k + 1), none⟩ = some (.int .i64 (z (k + 1))) := hB.ints (k + 1) hnx
          have g3' : wr.cell? ⟨b, off + k + 1, none⟩ = some (.int .i64 (z (k + 1))) := g3
          have g4 := hB.floats (k + 1) hnx
          obtain ⟨e1, e2⟩ := unhide HZ (k + 1) hnx
          generalize hze : z (k + 1) = e at *
          have HE := hide hze
          clear hze
          rcases Int.lt_trichotomy 0 e with ho | ho | ho
          · have t8 := near_leq 0 e (by omega) (by omega) (by omega)
            go_wp2_with fail
            go_roundw
            case rel => exact ⟨k + 1, by omega, by go_num, hB⟩
            case measure => simp [intOf]; omega
          · subst ho
            have t8 := near_leq 0 0 (by omega) (by omega) (by omega)
            have t9 := near_geq 0 0 (by omega) (by omega) (by omega)
            go_wp2_with fail
            go_roundw
            case rel => exact ⟨k + 1, by omega, by go_num, hB⟩
            case measure => simp [intOf]; omega
          · have t9 := near_geq 0 e (by omega) (by omega) (by omega)
            go_wp2_with fail
            go_roundw
            case rel => exact ⟨k + 1, by omega, by go_num, hB⟩
            case measure => simp [intOf]; omega
        · have hnx' : ¬ (k : Int) + 1 < (n : Int) := by omega
          go_wp2_with fail
          go_roundw
          case rel => exact ⟨k + 1, by omega, by go_num, hB⟩
          case measure => simp [intOf]; omega
      · obtain ⟨t5, t6⟩ := small_tests d (by omega) (by omega)
        rw [decide_eq_false (show ¬ d < 0 by omega)] at t1
        rw [decide_eq_false (show ¬ d = 0 by omega)] at t2
        have t0 : (d == 0) = false := beq_eq_false_iff_ne.2 (by omega)
        have t7 := fun wx => run_convert_float_int (P := Try.prog) wx 28 2 .f64 .i64 _ d (by kernel_rfl) Try.underlying2 (Flt.toInt_F d (by omega) (by omega))
        unfold Flt.F at t7
        obtain ⟨c1, c2⟩ := hcl
        by_cases hnx : k + 1 < n
        · have hnx' : (k : Int) + 1 < (n : Int) := by omega
          have g3 : wr.cell? ⟨b, off + (k + 1), none⟩ = some (.int .i64 (z (k + 1))) := hB.ints (k + 1) hnx
          have g3' : wr.cell? ⟨b, off + k + 1, none⟩ = some (.int .i64 (z (k + 1))) := g3
          have g4 := hB.floats (k + 1) hnx
          obtain ⟨e1, e2⟩ := unhide HZ (k + 1) hnx
          generalize hze : z (k + 1) = e at *
          have HE := hide hze
          clear hze
          rcases Int.lt_trichotomy d e with ho | ho | ho
          · have t8 := near_leq d e (by omega) (by omega) (by omega)
            go_wp2_with fail
            go_roundw
            case rel => exact ⟨k + 1, by omega, by go_num, hB⟩
            case measure => simp [intOf]; omega
          · subst ho
            have t8 := near_leq d d (by omega) (by omega) (by omega)
            have t9 := near_geq d d (by omega) (by omega) (by omega)
            go_wp2_with fail
            go_roundw
            case rel => exact ⟨k + 1, by omega, by go_num, hB⟩
            case measure => simp [intOf]; omega
          · have t9 := near_geq d e (by omega) (by omega) (by omega)
            go_wp2_with fail
            go_roundw
            case rel => exact ⟨k + 1, by omega, by go_num, hB⟩
            case measure => simp [intOf]; omega
        · have hnx' : ¬ (k : Int) + 1 < (n : Int) := by omega
          go_wp2_with fail
          go_roundw
          case rel => exact ⟨k + 1, by omega, by go_num, hB⟩
          case measure => simp [intOf]; omega
      · obtain ⟨t5, t6⟩ := great_tests d hcl d2
        rw [decide_eq_false (show ¬ d < 0 by omega)] at t1
        rw [decide_eq_false (show ¬ d = 0 by omega)] at t2
        have t0 : (d == 0) = false := beq_eq_false_iff_ne.2 (by omega)
        by_cases hnx : k + 1 < n
        · have hnx' : (k : Int) + 1 < (n : Int) := by omega
          have g3 : wr.cell? ⟨b, off + (k + 1), none⟩ = some (.int .i64 (z (k + 1))) := hB.ints (k + 1) hnx
          have g3' : wr.cell? ⟨b, off + k + 1, none⟩ = some (.int .i64 (z (k + 1))) := g3
          have g4 := hB.floats (k + 1) hnx
          obtain ⟨e1, e2⟩ := unhide HZ (k + 1) hnx
          generalize hze : z (k + 1) = e at *
          have HE := hide hze
          clear hze
          rcases Int.lt_trichotomy d e with ho | ho | ho
          · have t8 := near_leq d e (by omega) (by omega) (by omega)
            go_wp2_with fail
            go_roundw
            case rel => exact ⟨k + 1, by omega, by go_num, hB⟩
            case measure => simp [intOf]; omega
          · subst ho
            have t8 := near_leq d d (by omega) (by omega) (by omega)
            have t9 := near_geq d d (by omega) (by omega) (by omega)
            go_wp2_with fail
            go_roundw
            case rel => exact ⟨k + 1, by omega, by go_num, hB⟩
            case measure => simp [intOf]; omega
          · have t9 := near_geq d e (by omega) (by omega) (by omega)
            go_wp2_with fail
            go_roundw
            case rel => exact ⟨k + 1, by omega, by go_num, hB⟩
            case measure => simp [intOf]; omega
        · have hnx' : ¬ (k : Int) + 1 < (n : Int) := by omega
          go_wp2_with fail
          go_roundw
          case rel => exact ⟨k + 1, by omega, by go_num, hB⟩
          case measure => simp [intOf]; omega
    · clear hz
      go_wp2_with fail
      go_ret
      exact ⟨rfl, hB.below⟩

theorem bound_i64 {n : Int} (h : (Lit.int .i64 n).wf = true) : -9223372036854775808 ≤ n ∧ n ≤ 9223372036854775807 := by
  simp [Lit.wf, IntKind.min, IntKind.max, IntKind.signed, IntKind.bits] at h
  exact h

theorem walk (a0 : Option Addr) (len0 cap0 : Nat) (z0 : List Int) (w : World) (w0 : IsRow .i64 w a0 len0 cap0 z0) :
    Calls Try.prog 4 #[.slice a0 len0 cap0] w fun e w' => e = .returned (.bool true) ∧ Below w.heap.size w w' := by
  rcases w0 with ⟨rfl, rfl, rfl, rfl⟩ | ⟨x, rfl, hl, hm, hzl, hcell, hwf⟩
  · exact law_empty none 0 (fun _ => rfl) w
  unfold maxLen at hm
  by_cases h0 : len0 = 0
  · subst h0; exact law_empty (some x) cap0 (fun h => by cases h) w
  by_cases hlong : 131072 < len0
  · exact law_long _ _ _ w (by omega) hlong
  obtain ⟨b, off, spot⟩ := x
  have hspot : spot = none := by simpa [Addr.add] using World.cell?_spot (hcell 0 (by omega))
  subst hspot
  have hc : ∀ j, j < len0 → w.cell? ⟨b, off + j, none⟩ = some (.int .i64 (z0.getD j 0)) := fun j hj => by rw [← add_plain]; exact hcell j (by omega)
  have hb : b < w.heap.size := by
    have := hc 0 (by omega)
    exact block_lt_of_cell this
  refine law_any b off len0 cap0 (fun j => z0.getD j 0) w (by omega) hb hc (fun j hj => ?_)
  refine bound_i64 (hwf _ ?_)
  have hj' : j < z0.length := by omega
  simp [hj']

/-! ### The row's step -/
set_option maxRecDepth 100000 in
theorem lifted (os : Os) (started : os.Started) (H : Type) (enc : TypeId × Value → H) :
    ReturnsInHanded {} Try.checked os 4 .any (Rows.fnNanosecondsRoundTripsAndKeepsOrderSpec.pre6 enc Try.prog Try.f4 Rows.fnNanosecondsRoundTripsAndKeepsOrderRow.domain false) (Rows.fnNanosecondsRoundTripsAndKeepsOrderSpec.post enc Try.prog Try.f4 false true false false) := by
  refine returnsInHanded_of_change (C := Try.checked) own started (by kernel_rfl) Try.func4
    (ChangeSpec.witness6 (enc := enc) (C := Try.checked) false ⟨#[], #[.slice none 0 0], []⟩ 8 (by kernel_rfl) (by kernel_rfl) (by kernel_rfl) (by kernel_rfl)) ?_
  intro W base args ds gs before hval0 hW hcnd _
  have hval : ∀ (j : Nat) t v, Try.f4.params[j]? = some t → args[j]? = some v → Value.okWide Try.prog W .any base t v := hval0
  have hW' := hW
  obtain ⟨p, q, hA0, hV, rfl, hfz, hnd⟩ := hW
  have hA : DataW.TrodAll enc Try.prog W 0 (fun _ => true) true Try.f4.params.toList args.toList ds p := hA0
  rw [Try.params4] at hA hval
  obtain ⟨v0, vs0, d0, ds0, p0, q0, hargs, rfl, rfl, h0, r0⟩ := trodAll_cons hA
  obtain ⟨rfl, rfl, rfl⟩ := trodAll_nil r0
  obtain rfl : args = #[v0] := by cases args; simp_all
  obtain ⟨rfl, rfl⟩ := trodVars_none hV
  obtain ⟨a0, len0, cap0, rfl⟩ := okWide_slice Try.underlying22 (hval 0 22 v0 rfl rfl)
  have k0 := h0
  have lt0 : ∀ x ∈ p0, x.block < W.heap.size := by obtain ⟨m, hm⟩ := k0; exact DataW.trod_lt m _ _ _ hm
  obtain ⟨z0, w0⟩ : ∃ zs, IsRow .i64 W a0 len0 cap0 zs := by
    obtain ⟨fuel, hf⟩ := h0
    rcases open_ints Try.underlying22 Try.underlying2 (by kernel_rfl) hf with ⟨hcs, _⟩ | ⟨x, l, c, zs, hcs, _, hl, hm, hz, _, hcell, hwz⟩
    · simp [Value.cells] at hcs
      obtain ⟨rfl, rfl, rfl⟩ := hcs
      exact ⟨[], .inl ⟨rfl, rfl, rfl, rfl⟩⟩
    · simp [Value.cells] at hcs
      obtain ⟨rfl, rfl, rfl⟩ := hcs
      exact ⟨zs, .inr ⟨_, rfl, hl, hm, by simpa using hz, hcell, hwz⟩⟩
  clear hA0 hval0
  refine (walk a0 len0 cap0 z0 W w0).mono fun e W' ⟨he, bel⟩ => ?_
  subst he
  exact ⟨_, rfl, _, _, _, [], _, [], hW', trodAll_mk1 (shut_bool Try.underlying4 _), (trodAll_cons_mk (Below.trod laidOut (by kernel_rfl) (of_decide_eq_true (by kernel_rfl)) k0 bel lt0) trodAll_mk0), rfl, bel.frame _, fun h => by cases h⟩

theorem over : Rows.fnNanosecondsRoundTripsAndKeepsOrderRow.holds Try.pinned (OpenSpec.ofChange Rows.fnNanosecondsRoundTripsAndKeepsOrderSpec) :=
  OpenClaim.holds_of_wide 4 Try.f4 rfl rfl rfl rfl rfl rfl rfl ⟨rfl, rfl, rfl, rfl, rfl⟩ rfl rfl rfl rfl rfl (by kernel_rfl) Try.func4 (by kernel_rfl)
    (of_decide_eq_true (by kernel_rfl)) (by unfold Func.isWrapper; first | (rw [if_pos (by decide +kernel)]; kernel_rfl) | (rw [if_neg (by decide +kernel)]; exact ⟨rfl, rfl⟩))
    (fun os started H enc _ => lifted os started H enc)

/-- The statement. -/
theorem proved : Rows.FnNanosecondsRoundTripsAndKeepsOrderSaid := over
end Go.Proofs.Qxb6605602a.fnNanosecondsRoundTripsAndKeepsOrder
