/-
  The walk of FnReportsAgreesAcrossMakersAndFloors. (Seat b6614342aD.)
-/
import Derived.Test.Qxb6614342aDoorLawOne
namespace Go.Proofs.Qxb6614342aDoor.Leaves
open Go.RowKit Go.Deep Go.Maps Go.Proofs.Qxb6614342aDoor
set_option linter.unusedVariables false

set_option maxHeartbeats 2000000 in
theorem zzb10_0 (w : World) (node : ByteArray) (hs : node.size ≤ 9223372036854775807) (p x y : Int) (ba oa na ca : Nat) (ha : na ≤ 9223372036854775807) (hca : ∀ j, j < na → ∃ s : ByteArray, w.cell? ⟨ba, oa + j, none⟩ = some (.string s) ∧ s.size ≤ 9223372036854775807) :
    Calls Tryd.prog 10 #[.string node, .int .u8 p, .int .u64 x, .int .u64 y, (.slice (some ⟨ba, oa, none⟩) na ca)] w fun e w' => IsBool e ∧ w' = w := by
  by_cases tn : (1048576 : Int) < (node.size : Int)
  · clear hca
    go_enter Tryd.func10, Tryd.ntmps10
    go_wp2_with fail
    go_ret
    exact ⟨⟨_, rfl⟩, rfl⟩
  by_cases ta : (1048576 : Int) < (na : Int)
  · clear hca
    go_enter Tryd.func10, Tryd.ntmps10
    go_wp2_with fail
    all_goals (go_ret; exact ⟨⟨_, rfl⟩, rfl⟩)
  go_enter Tryd.func10, Tryd.ntmps10
  go_wp2_with fail
  all_goals first | (go_ret; exact ⟨⟨_, rfl⟩, rfl⟩) | skip
  go_loop [11, 12] (fun t i => ∃ (z : Int) (k : Nat), t = .int .i64 z ∧ k ≤ na ∧ i = .int .i64 k) (fun _ i => na - (intOf i).toNat)
  case atStart => exact ⟨_, 0, rfl, Nat.zero_le _, rfl⟩
  case round =>
    obtain ⟨z, k, rfl, hk, rfl⟩ := hrel
    by_cases hlt : k < na
    · have hlt' : (k : Int) < (na : Int) := by omega
      obtain ⟨s, g1, g2⟩ := hca k hlt
      go_wp2
      all_goals first
        | (go_ret; exact ⟨⟨_, rfl⟩, rfl⟩)
        | (go_round; (case rel => exact ⟨_, k + 1, rfl, by omega, by go_num⟩); (case measure => simp [intOf]; omega))
    · clear hca
      go_wp2
      go_ret
      exact ⟨⟨_, rfl⟩, rfl⟩

set_option maxHeartbeats 2000000 in
theorem zzb10_1 (w : World) (node : ByteArray) (hs : node.size ≤ 9223372036854775807) (p x y : Int) (xa : Option Addr) (ca : Nat) :
    Calls Tryd.prog 10 #[.string node, .int .u8 p, .int .u64 x, .int .u64 y, (.slice xa 0 ca)] w fun e w' => IsBool e ∧ w' = w := by
  by_cases tn : (1048576 : Int) < (node.size : Int)
  · go_enter Tryd.func10, Tryd.ntmps10
    go_wp2_with fail
    go_ret
    exact ⟨⟨_, rfl⟩, rfl⟩
  go_enter Tryd.func10, Tryd.ntmps10
  go_wp2_with fail
  all_goals first | (go_ret; exact ⟨⟨_, rfl⟩, rfl⟩) | skip
  go_loop [11, 12] (fun t i => (∃ z, t = .int .i64 z) ∧ i = .int .i64 0) (fun _ _ => 0)
  case atStart => exact ⟨⟨_, rfl⟩, rfl⟩
  case round =>
    obtain ⟨⟨z, rfl⟩, rfl⟩ := hrel
    go_wp2
    go_ret
    exact ⟨⟨_, rfl⟩, rfl⟩

theorem zzb10 (N na : Nat) (node : ByteArray) (hs : node.size ≤ 9223372036854775807) (va : Value) (w : World) (p x y : Int) (ha : Sl N w va na) :
    Calls Tryd.prog 10 #[.string node, .int .u8 p, .int .u64 x, .int .u64 y, va] w fun e w' => IsBool e ∧ w' = w := by
  rcases ha with ⟨xa, ca, rfl, rfl⟩ | ⟨ba, oa, ca, rfl, _, ha, hca⟩
  · exact zzb10_1 w node hs p x y xa ca
  · exact zzb10_0 w node hs p x y ba oa na ca ha hca

set_option maxRecDepth 100000 in
set_option maxHeartbeats 4000000 in
theorem law_two_yes (g o c0 : Nat) (a1 : Option Addr) (c1 na : Nat) (node : ByteArray) (hs : node.size ≤ 9223372036854775807) (p x y : Int) (hp : (p == 4) = true) (va : Value) (w : World) (hG : Glob w.heap.size w g o c0 a1 c1)
    (xa : Option Addr) (ca : Nat) (hva : va = .slice xa na ca) (ha : Sl w.heap.size w va na) :
    Calls Tryd.prog 4 #[.string node, .int .u8 p, .int .u64 x, .int .u64 y, va] w fun e w' => e = .returned (.bool true) ∧ Below w.heap.size w w' := by
  subst hva
  go_enter Tryd.func4, Tryd.ntmps4
  go_wp2_with fail
  refine (zzb10 w.heap.size na node hs _ _ p x y ha).mono ?_
  rintro e w1 ⟨⟨r, rfl⟩, hw⟩
  replace hw := hw.symm
  subst hw
  cases r with
  | false =>
    go_wp2_with fail
    go_ret
    exact ⟨rfl, Below.refl _ _⟩
  | true =>
    by_cases ln : (1048576 : Int) < (node.size : Int)
    · go_wp2_with fail
      go_ret
      exact ⟨rfl, Below.refl _ _⟩
    by_cases la : (65536 : Int) < (na : Int)
    · go_wp2_with fail
      go_ret
      exact ⟨rfl, Below.refl _ _⟩
    go_wp2_with fail
    refine (sbytes_any w.heap.size na _ _ _ ha).mono ?_
    rintro e w1 ⟨⟨r1, rfl⟩, hw⟩
    replace hw := hw.symm
    subst hw
    go_upto_if 40 with fail
    generalize wrap64 ((node.size : Int) + r1) = r3
    by_cases l2 : (1048576 : Int) < r3
    · go_wp2_with fail
      go_ret
      exact ⟨rfl, Below.refl _ _⟩
    have lan : na ≤ 65536 := by omega
    have g0' := World.grownBy_alloc w (.cells #[.int .u8 p, .int .u8 0, .int .u8 0] 31) none
    have HG := hide hG
    have HA := hide ha
    have hz : (w.alloc (.cells #[.int .u8 p, .int .u8 0, .int .u8 0] 31)).heap.size = w.heap.size + 1 := by simp
    have HZ := hide hz
    have q0 : (w.alloc (.cells #[.int .u8 p, .int .u8 0, .int .u8 0] 31)).cell? ⟨w.heap.size, 0, none⟩ = some (.int .u8 p) := by rw [World.cell?_alloc_at _ _ _ _ rfl]; rfl
    have q1 : (w.alloc (.cells #[.int .u8 p, .int .u8 0, .int .u8 0] 31)).cell? ⟨w.heap.size, 1, none⟩ = some (.int .u8 0) := by rw [World.cell?_alloc_at _ _ _ _ rfl]; rfl
    have q2 : (w.alloc (.cells #[.int .u8 p, .int .u8 0, .int .u8 0] 31)).cell? ⟨w.heap.size, 2, none⟩ = some (.int .u8 0) := by rw [World.cell?_alloc_at _ _ _ _ rfl]; rfl
    have Q0 := hide q0
    have Q1 := hide q1
    have Q2 := hide q2
    have G0 := hide g0'
    clear hG ha hz q0 q1 q2 g0'
    go_wp2_with fail
    refine (cluster_any w.heap.size g o c0 a1 c1 node p 0 0 _ ((unhide HG).grown (unhide G0) (Nat.le_refl _) (fun r hr => by cases hr)) (by rw [unhide HZ]; omega)).mono ?_
    rintro e w1 ⟨⟨b, rfl, hb, hM⟩, k1⟩
    have hb1 := hb
    rw [unhide HZ] at hb1
    go_wp2_with fail
    refine (reports_any b 1 p _ hM (by omega)).mono ?_
    rintro e w2 ⟨rfl, hw⟩
    replace hw := hw.symm
    subst hw
    rw [rep_one]
    go_wp2_with fail
    refine (fences_any b 1 p x _ hM).mono ?_
    rintro e w3 ⟨rfl, hM3, k3⟩
    have L3 := grown_row k1 k3 hb
    clear hM k1 k3
    go_wp2_with fail
    refine (copies_any b 1 p y _ hM3).mono ?_
    rintro e w4 ⟨rfl, hM4, k4⟩
    have L4 := grown_row L3 k4 hb
    clear hM3 L3 k4
    go_wp2_with fail
    refine (reports_any b 1 p _ hM4 (by omega)).mono ?_
    rintro e w2 ⟨rfl, hw⟩
    replace hw := hw.symm
    subst hw
    rw [rep_one]
    have K4 := grown_trans (unhide G0) L4
    go_wp2_with fail
    refine (detect_any w.heap.size b na 1 p _ _ hM4 ((unhide HA).below (below_of K4) (Nat.le_refl _)) K4.size lan).mono ?_
    rintro e w5 ⟨rfl, hM5, k5⟩
    have L5 := grown_row L4 k5 hb
    have K5 := grown_trans (unhide G0) L5
    have bl := below_of L5
    rw [unhide HZ] at bl
    have q0 := (bl.cell (p := ⟨w.heap.size, 0, none⟩) (by show w.heap.size < w.heap.size + 1; omega)).trans (unhide Q0)
    have q1 := (bl.cell (p := ⟨w.heap.size, 1, none⟩) (by show w.heap.size < w.heap.size + 1; omega)).trans (unhide Q1)
    have q2 := (bl.cell (p := ⟨w.heap.size, 2, none⟩) (by show w.heap.size < w.heap.size + 1; omega)).trans (unhide Q2)
    clear hM4 L4 k5 K4 Q0 Q1 Q2 bl L5
    go_wp2_with fail
    refine (manager_any w.heap.size g o c0 a1 c1 p 0 0 _ ((unhide HG).grown K5 (Nat.le_refl _) (fun r hr => by cases hr)) K5.size).mono ?_
    rintro e w6 ⟨⟨b2, rfl, hb2, hM6⟩, k6⟩
    have K6 := grown_trans K5 k6
    have hC6 := hM5.grown k6 (by simp)
    have hlt := hM5.lt
    have hsz := K5.size
    clear q0 q1 q2 hM5 k6 K5 HG G0 HZ
    go_wp2_with fail
    refine (detect_any w.heap.size b2 na 1 p _ _ hM6 ((unhide HA).below (below_of K6) (Nat.le_refl _)) K6.size lan).mono ?_
    rintro e w7 ⟨rfl, hM7, k7⟩
    have K7 := grown_row K6 k7 (by omega)
    have hC7 := hC6.grown k7 (by intro e; injection e with e; omega)
    clear hM6 hC6 K6 k7 HA
    go_wp2_with fail
    refine (reports_any b na p _ hC7 (by omega)).mono ?_
    rintro e w8 ⟨rfl, hw⟩
    replace hw := hw.symm
    subst hw
    rw [rep_yes p na hp]
    clear hC7
    go_wp2_with fail
    refine (reports_any b2 na p _ hM7 (by omega)).mono ?_
    rintro e w8 ⟨rfl, hw⟩
    replace hw := hw.symm
    subst hw
    rw [rep_yes p na hp]
    clear hM7
    go_wp2_with fail
    go_ret
    exact ⟨by simp, below_of K7⟩

set_option maxRecDepth 100000 in
set_option maxHeartbeats 4000000 in
theorem law_two_no (g o c0 : Nat) (a1 : Option Addr) (c1 na : Nat) (node : ByteArray) (hs : node.size ≤ 9223372036854775807) (p x y : Int) (hp : (p == 4) = false) (va : Value) (w : World) (hG : Glob w.heap.size w g o c0 a1 c1)
    (xa : Option Addr) (ca : Nat) (hva : va = .slice xa na ca) (ha : Sl w.heap.size w va na) :
    Calls Tryd.prog 4 #[.string node, .int .u8 p, .int .u64 x, .int .u64 y, va] w fun e w' => e = .returned (.bool true) ∧ Below w.heap.size w w' := by
  subst hva
  go_enter Tryd.func4, Tryd.ntmps4
  go_wp2_with fail
  refine (zzb10 w.heap.size na node hs _ _ p x y ha).mono ?_
  rintro e w1 ⟨⟨r, rfl⟩, hw⟩
  replace hw := hw.symm
  subst hw
  cases r with
  | false =>
    go_wp2_with fail
    go_ret
    exact ⟨rfl, Below.refl _ _⟩
  | true =>
    by_cases ln : (1048576 : Int) < (node.size : Int)
    · go_wp2_with fail
      go_ret
      exact ⟨rfl, Below.refl _ _⟩
    by_cases la : (65536 : Int) < (na : Int)
    · go_wp2_with fail
      go_ret
      exact ⟨rfl, Below.refl _ _⟩
    go_wp2_with fail
    refine (sbytes_any w.heap.size na _ _ _ ha).mono ?_
    rintro e w1 ⟨⟨r1, rfl⟩, hw⟩
    replace hw := hw.symm
    subst hw
    go_upto_if 40 with fail
    generalize wrap64 ((node.size : Int) + r1) = r3
    by_cases l2 : (1048576 : Int) < r3
    · go_wp2_with fail
      go_ret
      exact ⟨rfl, Below.refl _ _⟩
    have lan : na ≤ 65536 := by omega
    have g0' := World.grownBy_alloc w (.cells #[.int .u8 p, .int .u8 0, .int .u8 0] 31) none
    have HG := hide hG
    have HA := hide ha
    have hz : (w.alloc (.cells #[.int .u8 p, .int .u8 0, .int .u8 0] 31)).heap.size = w.heap.size + 1 := by simp
    have HZ := hide hz
    have q0 : (w.alloc (.cells #[.int .u8 p, .int .u8 0, .int .u8 0] 31)).cell? ⟨w.heap.size, 0, none⟩ = some (.int .u8 p) := by rw [World.cell?_alloc_at _ _ _ _ rfl]; rfl
    have q1 : (w.alloc (.cells #[.int .u8 p, .int .u8 0, .int .u8 0] 31)).cell? ⟨w.heap.size, 1, none⟩ = some (.int .u8 0) := by rw [World.cell?_alloc_at _ _ _ _ rfl]; rfl
    have q2 : (w.alloc (.cells #[.int .u8 p, .int .u8 0, .int .u8 0] 31)).cell? ⟨w.heap.size, 2, none⟩ = some (.int .u8 0) := by rw [World.cell?_alloc_at _ _ _ _ rfl]; rfl
    have Q0 := hide q0
    have Q1 := hide q1
    have Q2 := hide q2
    have G0 := hide g0'
    clear hG ha hz q0 q1 q2 g0'
    go_wp2_with fail
    refine (cluster_any w.heap.size g o c0 a1 c1 node p 0 0 _ ((unhide HG).grown (unhide G0) (Nat.le_refl _) (fun r hr => by cases hr)) (by rw [unhide HZ]; omega)).mono ?_
    rintro e w1 ⟨⟨b, rfl, hb, hM⟩, k1⟩
    have hb1 := hb
    rw [unhide HZ] at hb1
    go_wp2_with fail
    refine (reports_any b 1 p _ hM (by omega)).mono ?_
    rintro e w2 ⟨rfl, hw⟩
    replace hw := hw.symm
    subst hw
    rw [rep_one]
    go_wp2_with fail
    refine (fences_any b 1 p x _ hM).mono ?_
    rintro e w3 ⟨rfl, hM3, k3⟩
    have L3 := grown_row k1 k3 hb
    clear hM k1 k3
    go_wp2_with fail
    refine (copies_any b 1 p y _ hM3).mono ?_
    rintro e w4 ⟨rfl, hM4, k4⟩
    have L4 := grown_row L3 k4 hb
    clear hM3 L3 k4
    go_wp2_with fail
    refine (reports_any b 1 p _ hM4 (by omega)).mono ?_
    rintro e w2 ⟨rfl, hw⟩
    replace hw := hw.symm
    subst hw
    rw [rep_one]
    have K4 := grown_trans (unhide G0) L4
    go_wp2_with fail
    refine (detect_any w.heap.size b na 1 p _ _ hM4 ((unhide HA).below (below_of K4) (Nat.le_refl _)) K4.size lan).mono ?_
    rintro e w5 ⟨rfl, hM5, k5⟩
    have L5 := grown_row L4 k5 hb
    have K5 := grown_trans (unhide G0) L5
    have bl := below_of L5
    rw [unhide HZ] at bl
    have q0 := (bl.cell (p := ⟨w.heap.size, 0, none⟩) (by show w.heap.size < w.heap.size + 1; omega)).trans (unhide Q0)
    have q1 := (bl.cell (p := ⟨w.heap.size, 1, none⟩) (by show w.heap.size < w.heap.size + 1; omega)).trans (unhide Q1)
    have q2 := (bl.cell (p := ⟨w.heap.size, 2, none⟩) (by show w.heap.size < w.heap.size + 1; omega)).trans (unhide Q2)
    clear hM4 L4 k5 K4 Q0 Q1 Q2 bl L5
    go_wp2_with fail
    refine (manager_any w.heap.size g o c0 a1 c1 p 0 0 _ ((unhide HG).grown K5 (Nat.le_refl _) (fun r hr => by cases hr)) K5.size).mono ?_
    rintro e w6 ⟨⟨b2, rfl, hb2, hM6⟩, k6⟩
    have K6 := grown_trans K5 k6
    have hC6 := hM5.grown k6 (by simp)
    have hlt := hM5.lt
    have hsz := K5.size
    clear q0 q1 q2 hM5 k6 K5 HG G0 HZ
    go_wp2_with fail
    refine (detect_any w.heap.size b2 na 1 p _ _ hM6 ((unhide HA).below (below_of K6) (Nat.le_refl _)) K6.size lan).mono ?_
    rintro e w7 ⟨rfl, hM7, k7⟩
    have K7 := grown_row K6 k7 (by omega)
    have hC7 := hC6.grown k7 (by intro e; injection e with e; omega)
    clear hM6 hC6 K6 k7 HA
    go_wp2_with fail
    refine (reports_any b na p _ hC7 (by omega)).mono ?_
    rintro e w8 ⟨rfl, hw⟩
    replace hw := hw.symm
    subst hw
    rw [rep_no p na hp]
    clear hC7
    go_wp2_with fail
    refine (reports_any b2 na p _ hM7 (by omega)).mono ?_
    rintro e w8 ⟨rfl, hw⟩
    replace hw := hw.symm
    subst hw
    rw [rep_no p na hp]
    clear hM7
    go_wp2_with fail
    go_ret
    exact ⟨by simp, below_of K7⟩

theorem law_two (g o c0 : Nat) (a1 : Option Addr) (c1 na : Nat) (node : ByteArray) (hs : node.size ≤ 9223372036854775807) (p x y : Int) (va : Value) (w : World) (hG : Glob w.heap.size w g o c0 a1 c1)
    (xa : Option Addr) (ca : Nat) (hva : va = .slice xa na ca) (ha : Sl w.heap.size w va na) :
    Calls Tryd.prog 4 #[.string node, .int .u8 p, .int .u64 x, .int .u64 y, va] w fun e w' => e = .returned (.bool true) ∧ Below w.heap.size w w' := by
  cases hp : (p == 4) with
  | true => exact law_two_yes g o c0 a1 c1 na node hs p x y hp va w hG xa ca hva ha
  | false => exact law_two_no g o c0 a1 c1 na node hs p x y hp va w hG xa ca hva ha

end Go.Proofs.Qxb6614342aDoor.Leaves
